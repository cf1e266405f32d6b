/- LawS194110BWhole: zzs194110bbuild (4). -/
import Derived.Test.YbulkexozuStates
import Derived.RegionTactic
import Derived.BigRegion
import Derived.BigQuiet
import Derived.Deep.QuietTactic
import Derived.Deep.DeepCutAuto
import Derived.Deep.CutBlock
import Derived.Deep.RegionHeld3
namespace Go.Proofs.Ybulkexozu
open Go.RowKit Go.PK Go.SM
set_option linter.unusedVariables false

def z43 : Array Value := #[.string ByteArray.empty, .string ByteArray.empty] ++ Array.replicate 40 (.int .u8 0) ++ #[.bool false]
theorem zero27 (w : World) : (zeroValue 27).run Yba.prog w = .ok (.agg z43) w := by kernel_rfl

theorem size_z43 : z43.size = 43 := by kernel_rfl
theorem store27 {e : Ent} (ok : e.Ok) (w : World) : (Instr.storeAt 27 (.pointer (some ⟨w.heap.size, 0, none⟩)) (.agg e.cells.toArray)).run Yba.prog (w.alloc (.cells z43 27)) = .ok () (w.alloc (.cells e.cells.toArray 27)) :=
  run_storeAt_new w 27 z43 e.cells.toArray (by rw [size27]; simp [ok.len]) (by rw [size_z43]; simp [ok.len]) (all_oneCell_toArray ok.one)
theorem upd_only (S : ByteArray → AL) {e : Ent} (h : e.only = true) : upd S e = S := by
  funext k
  simp [upd, h]

/-- What the rest of a round asks: the entry's own block, and its values. -/
structure OwnEnt (x : World) (eb : Nat) (e : Ent) : Prop where
  blk : x.heap[eb]? = some (.cells e.cells.toArray 27)
  c0 : x.cell? ⟨eb, 0, none⟩ = some (.string e.db)
  c1 : x.cell? ⟨eb, 1, none⟩ = some (.string e.br)
  c42 : x.cell? ⟨eb, 42, none⟩ = some (.bool e.only)
  l2 : (Instr.loadAt 25 (.pointer (some ⟨eb, 2, none⟩))).run Yba.prog x = .ok (.agg e.cm.toArray) x
  l22 : (Instr.loadAt 25 (.pointer (some ⟨eb, 22, none⟩))).run Yba.prog x = .ok (.agg e.wk.toArray) x
theorem ownEnt {x : World} {eb : Nat} {e : Ent} (h : x.heap[eb]? = some (.cells e.cells.toArray 27)) (ok : e.Ok) : OwnEnt x eb e := by
  have hr := range_block h
  have h1 := entIs_of (o := 0) (by simpa using hr) ok
  exact ⟨h, h1.c0, by simpa using h1.c1, by simpa using h1.c42, by simpa using h1.l2, by simpa using h1.l22⟩

set_option maxHeartbeats 4000000 in
set_option maxRecDepth 100000 in
theorem build_any (a0 : Option Addr) (n cap0 : Nat) (E : Nat → Ent) (w : World) (hn : n ≤ 65536) (hE0 : EntAt w a0 n E) :
    Calls Yba.prog 4 #[.slice a0 n cap0] w fun e w' => ∃ rb ob q1 q2 A, e = .returned (.pointer (some ⟨rb, 0, none⟩)) ∧ RepoAt w' w.heap.size w'.heap.size rb ob q1 q2 0 A (tab E n) ∧ Below w.heap.size w w' := by
  have hmm := @run_makeMap Yba.prog
  have HE : Hid (EntAt w a0 n E) := hE0
  clear hE0
  have hz := zero27
  go_enter Yba.func4, Yba.ntmps4
  go_wp2_with fail
  go_loopw [14] (fun i x => ∃ (k : Nat) (A : AL), k ≤ n ∧ i = .int .i64 (k : Int) ∧ Below w.heap.size w x ∧ RepoAt x w.heap.size x.heap.size (w.heap.size + 1 + 1 + 1) w.heap.size (w.heap.size + 1) (w.heap.size + 1 + 1) 0 A (tab E k)) (fun i _ => n - (intOf i).toNat)
  case atStart =>
    refine ⟨0, [], by omega, rfl, ?_, ?_⟩
    · exact ((((Below.refl _ w).alloc (by simp) _).alloc (by simp) _).alloc (by simp; omega) _).alloc (by simp; omega) _
    · refine ⟨?_, ?_, ?_, ?_, ?_, ?_, ?_⟩
      · exact blk_at (by simp)
      · have h0 := StrMap.made w
        exact ((h0.kept fun o ho => blk_alloc ho _).kept fun o ho => blk_alloc ho _).kept fun o ho => blk_alloc ho _
      · intro k v e; cases e
      · intro k; exact .inl ⟨rfl, rfl⟩
      · intro k k' m e; cases e
      · omega
      · simp; omega
  case round =>
    obtain ⟨i, A, hi, rfl, hb, hR⟩ := hrel
    by_cases hlt : i < n
    · obtain ⟨b, o, ha, hbl, hr, ok⟩ := HE.out i hlt
      subst ha
      have hl := (entIs_of (range_below hr hb hbl) ok).l
      have hst := store27 ok wr
      obtain ⟨X, hX⟩ : ∃ X, X = wr.alloc (.cells (E i).cells.toArray 27) := ⟨_, rfl⟩
      rw [← hX] at hst
      have hRX : RepoAt X w.heap.size (wr.heap.size + 1) (w.heap.size + 1 + 1 + 1) w.heap.size (w.heap.size + 1) (w.heap.size + 1 + 1) 0 A (tab E i) := by rw [hX]; exact (hR.alloc _).wide (by omega)
      have hbX : Below w.heap.size w X := by rw [hX]; exact hb.alloc hb.size _
      have hO : OwnEnt X wr.heap.size (E i) := ownEnt (by rw [hX]; exact blk_new _ _) ok
      have hsX : Hid (X.heap.size = wr.heap.size + 1) := by show X.heap.size = _; rw [hX]; simp
      clear hX hR hr hbl
      have i0 : (i : Int) < (n : Int) := by omega
      have k3 := hRX.cell3
      have k0 := hO.c0
      have hfd : ∀ m, (Instr.lookup 39 (.map (some w.heap.size)) (.string (E i).db) false).run Yba.prog (X.drewN m) = .ok ((SM.look A (E i).db).getD (.map none)) (X.drewN m) := fun m => (hRX.drewN m).find (E i).db
      have hq : ∀ m, RepoAt (X.drewN m) w.heap.size (wr.heap.size + 1) (w.heap.size + 1 + 1 + 1) w.heap.size (w.heap.size + 1) (w.heap.size + 1 + 1) 0 A (tab E i) ∧ Below w.heap.size w (X.drewN m) ∧ OwnEnt (X.drewN m) wr.heap.size (E i) ∧ Hid ((X.drewN m).heap.size = wr.heap.size + 1) :=
        fun m => ⟨hRX.drewN m, ⟨hbX.os, hbX.tape, hbX.output, hbX.size, hbX.block⟩, ownEnt hO.blk ok, hsX⟩
      clear hRX hbX hO hsX
      -- the round's end
      have hend : ∀ (Z : World) (A' : AL), RepoAt Z w.heap.size Z.heap.size (w.heap.size + 1 + 1 + 1) w.heap.size (w.heap.size + 1) (w.heap.size + 1 + 1) 0 A' (tab E (i + 1)) → Below w.heap.size w Z →
          (∃ (k : Nat) (A : AL), k ≤ n ∧ Value.int .i64 ((i : Int) + 1) = .int .i64 (k : Int) ∧ Below w.heap.size w Z ∧ RepoAt Z w.heap.size Z.heap.size (w.heap.size + 1 + 1 + 1) w.heap.size (w.heap.size + 1) (w.heap.size + 1 + 1) 0 A (tab E k)) ∧ n - (intOf (.int .i64 ((i : Int) + 1))).toNat < n - (intOf (.int .i64 (i : Int))).toNat := by
        intro Z A' h1 h2
        exact ⟨⟨i + 1, A', by omega, by simp, h2, h1⟩, by simp [intOf]; omega⟩
      have n48 := eql48n
      have s48 := eql48s
      have b30 : ∀ w, (Instr.build 30 #[(0, .agg (E i).cm.toArray), (1, .agg (E i).wk.toArray)]).run Yba.prog w = .ok (.agg (E i).hdl.toArray) w := build30 ok.cm ok.wk
      cases hlk : SM.look A (E i).db with
      | none =>
        rw [hlk] at hfd
        go_wp2_with (first | (refine wpList_load_eq (by rfl) _ _ (by rfl) (by rfl) hl ?_) | (refine wpList_store_eq (by rfl) _ _ _ (by rfl) (by rfl) (by rfl) hst ?_))
        go_quiet (fail)
        clear hfd k3 k0 hl hst
        obtain ⟨hRq, hbq, hOq, hsq⟩ := hq nq
        clear hq
        go_wp2_with fail
        obtain ⟨W1, hW1⟩ : ∃ W1, W1 = (X.drewN nq).alloc (.map #[] 0) := ⟨_, rfl⟩
        have hR1 := hRq.alloc (.map #[] 0)
        have hm1 : StrMap ((X.drewN nq).alloc (.map #[] 0)) X.heap.size [] := StrMap.made (X.drewN nq)
        have hO1 : OwnEnt ((X.drewN nq).alloc (.map #[] 0)) wr.heap.size (E i) := ownEnt (blk_alloc hOq.blk _) ok
        have hb1 := hbq.alloc hbq.size (.map #[] 0)
        have hs1 : ((X.drewN nq).alloc (.map #[] 0)).heap.size = X.heap.size + 1 := by simp
        have hsq' : X.heap.size = wr.heap.size + 1 := hsq.out
        rw [← hW1] at hR1 hm1 hO1 hb1 hs1 ⊢
        obtain ⟨Y, hY, hRY, hgY, hsY⟩ := hR1.drew.newdb (E i).db hlk (m := X.heap.size) hm1 (by omega) (by have := hb.size; omega)
        have hOY : OwnEnt Y wr.heap.size (E i) := ownEnt (blk_grown (w := W1.drew) hO1.blk hgY (by simpa using hR1.outer.ne hO1.blk)) ok
        have hbY : Below w.heap.size w Y := hb1.drew.grown hgY hb1.size (fun k e => by cases e; exact Nat.le_refl _)
        have hszY : Hid (X.heap.size + 1 ≤ Y.heap.size) := by show _ ≤ _; rw [hsY]; exact Nat.le_of_eq hs1.symm
        have hlY : SM.look (put A (E i).db (.map (some X.heap.size))) (E i).db = some (.map (some X.heap.size)) := look_put_same _ _ _
        have hmBY : w.heap.size ≤ X.heap.size := by have := hb.size; omega
        have c3 := hR1.cell3
        have c0 := hO1.c0
        clear hW1 hR1 hm1 hO1 hb1 hs1 hsq' hsY hgY hRq hbq hOq hsq
        go_region
        have d42 := hOY.c42
        have d1 := hOY.c1
        have d2 := hOY.l2
        have d22 := hOY.l22
        cases hon : (E i).only with
        | true =>
          rw [hon] at d42
          go_wp2_with fail
          exact hend _ _ (by rw [show tab E (i + 1) = tab E i from upd_only _ hon]; exact hRY.wide hszY.out) hbY
        | false =>
          rw [hon] at d42
          obtain ⟨Z, hZ, hRZ, hgZ, hsZ⟩ := hRY.setbr (E i) hon hlY
          have hbZ : Below w.heap.size w Z := hbY.grown hgZ hbY.size (fun k e => by cases e; exact hmBY)
          have hZ' : (Instr.mapUpdate 48 (.map (some _)) (.string (E i).br) (.agg (E i).hdl.toArray)).run Yba.prog Y = .ok () Z := hZ
          clear hZ
          have hfin := hend Z _ (hRZ.wide (by rw [hsZ]; exact hszY.out)) hbZ
          clear hsZ hgZ hbZ hRZ hend
          go_wp2_with (first | (refine wpList_load_eq (by rfl) _ _ (by rfl) (by rfl) d2 ?_) | (refine wpList_load_eq (by rfl) _ _ (by rfl) (by rfl) d22 ?_) | (refine wpList_build_eq (by rfl) _ _ (by rfl) (by rfl) (b30 _) ?_))
          exact hfin
      | some v =>
        obtain ⟨m, rfl, hmo, hmBY, hmN⟩ := (hq 0).1.isMap _ _ hlk
        rw [hlk] at hfd
        go_wp2_with (first | (refine wpList_load_eq (by rfl) _ _ (by rfl) (by rfl) hl ?_) | (refine wpList_store_eq (by rfl) _ _ _ (by rfl) (by rfl) (by rfl) hst ?_))
        go_quiet (fail)
        clear hfd k3 k0 hl hst
        obtain ⟨hRY, hbY, hOY, hsq⟩ := hq nq
        have hlY := hlk
        have hszY : Hid (wr.heap.size + 1 ≤ (X.drewN nq).heap.size) := by show _ ≤ _; rw [hsq.out]; exact Nat.le_refl _
        generalize X.drewN nq = Y at *
        clear hsq hq hlk
        have d42 := hOY.c42
        have d1 := hOY.c1
        have d2 := hOY.l2
        have d22 := hOY.l22
        cases hon : (E i).only with
        | true =>
          rw [hon] at d42
          go_wp2_with fail
          exact hend _ _ (by rw [show tab E (i + 1) = tab E i from upd_only _ hon]; exact hRY.wide hszY.out) hbY
        | false =>
          rw [hon] at d42
          obtain ⟨Z, hZ, hRZ, hgZ, hsZ⟩ := hRY.setbr (E i) hon hlY
          have hbZ : Below w.heap.size w Z := hbY.grown hgZ hbY.size (fun k e => by cases e; exact hmBY)
          have hZ' : (Instr.mapUpdate 48 (.map (some _)) (.string (E i).br) (.agg (E i).hdl.toArray)).run Yba.prog Y = .ok () Z := hZ
          clear hZ
          have hfin := hend Z _ (hRZ.wide (by rw [hsZ]; exact hszY.out)) hbZ
          clear hsZ hgZ hbZ hRZ hend
          go_wp2_with (first | (refine wpList_load_eq (by rfl) _ _ (by rfl) (by rfl) d2 ?_) | (refine wpList_load_eq (by rfl) _ _ (by rfl) (by rfl) d22 ?_) | (refine wpList_build_eq (by rfl) _ _ (by rfl) (by rfl) (b30 _) ?_))
          exact hfin
    · obtain rfl : i = n := by omega
      go_wp2_with fail
      go_ret
      exact ⟨_, _, _, _, _, rfl, hR, hb⟩
end Go.Proofs.Ybulkexozu
