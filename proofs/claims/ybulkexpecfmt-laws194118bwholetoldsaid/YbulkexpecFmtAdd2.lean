/- LawS194118BWhole: spdx.Join's closure add (16) at a simple expression. -/
import Derived.Test.YbulkexpecFmtAdd
import Derived.Deep.AppendLies
import Derived.Test.YbulkexpecFmtLast
namespace Go.Proofs.YbulkexpecFmt
open Go.RowKit Go.PK Go.Shelf Go.RegInv
set_option linter.unusedVariables false
set_option linter.unusedSimpArgs false

abbrev EX := ByteArray × ByteArray
def addL (es : List EX) (e : EX) : List EX := if e.1 = noStr then es else if (es.any fun k => (textOf k.1 k.2).toList == (textOf e.1 e.2).toList) = true then es else es ++ [e]
def exs (ks : List KE) : List EX := ks.map fun k => (k.1, k.2.1)
theorem any_exs (ks : List KE) (t : ByteArray) : (ks.any fun k => (textOf k.i k.x).toList == t.toList) = ((exs ks).any fun k => (textOf k.1 k.2).toList == t.toList) := by
  unfold exs
  rw [List.any_map]
  rfl
theorem info49 : (Ybaf.prog.info? 49).map (fun i => (i.zero, i.size, i.bytes)) = some (some (.agg #[.int .i64 0, .string ⟨#[]⟩, .string ⟨#[]⟩, .slice none 0 0, .slice none 0 0, .string ⟨#[]⟩]), 6, 104) := by kernel_rfl

theorem row_ne6 {w : World} {B e size n b : Nat} {v : Value} {xs : List Value} {cs : Array Value} {t : TypeId} {m : Nat × Nat} (h : w.ownsRow B e size v n xs) (hv : v.ownBlock = some b) (hb : w.heap[b]? = some (.cells cs t m)) (hne : t ≠ e) : False := by
  rcases Joins.ownsRow_forms h with ⟨rfl, rfl⟩ | ⟨g', cap, rfl⟩
  · cases hv
  · cases hv
    obtain ⟨cur, hc, _⟩ := own_blk h
    exact ne_of_type hb hc hne rfl
theorem after20 {w3 wI : World} {n0 n1 ab : Nat} {v0 v1 v2 v3 vt va : Value} (hb : Below w3.heap.size w3.drew wI) (l0 : n0 < w3.heap.size) (l1 : n1 < w3.heap.size) (l2 : ab < w3.heap.size)
    (e0 : w3.cell? ⟨n0, 0, none⟩ = some v0) (e1 : w3.cell? ⟨n0, 1, none⟩ = some v1) (e2 : w3.cell? ⟨n0, 2, none⟩ = some v2) (e3 : w3.cell? ⟨n0, 3, none⟩ = some v3) (et : w3.cell? ⟨n1, 0, none⟩ = some vt) (ea : w3.cell? ⟨ab, 0, none⟩ = some va) :
    (wI.cell? ⟨n0, 0, none⟩ = some v0 ∧ wI.cell? ⟨n0, 1, none⟩ = some v1 ∧ wI.cell? ⟨n0, 2, none⟩ = some v2 ∧ wI.cell? ⟨n0, 3, none⟩ = some v3 ∧ wI.cell? ⟨n1, 0, none⟩ = some vt ∧ wI.cell? ⟨ab, 0, none⟩ = some va) ∧
    ∀ o, (wI.alloc o).cell? ⟨n0, 0, none⟩ = some v0 ∧ (wI.alloc o).cell? ⟨n0, 1, none⟩ = some v1 ∧ (wI.alloc o).cell? ⟨n0, 2, none⟩ = some v2 ∧ (wI.alloc o).cell? ⟨n0, 3, none⟩ = some v3 ∧ (wI.alloc o).cell? ⟨n1, 0, none⟩ = some vt ∧ (wI.alloc o).cell? ⟨ab, 0, none⟩ = some va := by
  have k0 : ∀ (V : World) (o : Obj) (b j : Nat) (v : Value), V.cell? ⟨b, j, none⟩ = some v → (V.alloc o).cell? ⟨b, j, none⟩ = some v := fun V o b j v h => by rw [World.cell?_alloc_lt _ _ _ (World.block_lt_of_cell? V _ h)]; exact h
  have kc : ∀ (b j : Nat) (v : Value), b < w3.heap.size → w3.cell? ⟨b, j, none⟩ = some v → wI.cell? ⟨b, j, none⟩ = some v := fun b j v hb' h => by rw [hb.cell (p := ⟨b, j, none⟩) hb']; exact h
  have a0 := kc _ _ _ l0 e0
  have a1 := kc _ _ _ l0 e1
  have a2 := kc _ _ _ l0 e2
  have a3 := kc _ _ _ l0 e3
  have a4 := kc _ _ _ l1 et
  have a5 := kc _ _ _ l2 ea
  exact ⟨⟨a0, a1, a2, a3, a4, a5⟩, fun o => ⟨k0 _ _ _ _ _ a0, k0 _ _ _ _ _ a1, k0 _ _ _ _ _ a2, k0 _ _ _ _ _ a3, k0 _ _ _ _ _ a4, k0 _ _ _ _ _ a5⟩⟩

theorem add_fin {i x t : ByteArray} {ab B g g' cap' : Nat} {av : Value} {ks : List KE} {w w3 wI wA : World} {o : Obj} (h0 : ¬ i = noStr) (hf : false = (exs ks).any fun k => (textOf k.1 k.2).toList == (textOf i x).toList) (ht : t = textOf i x) (m4 : Moved w w3 (fun _ => False))
    (h4 : AllAt w3 ab B av ks) (hAI : AllAt wI ab B av ks) (hbI : Below w3.drew.heap.size w3.drew wI) (hgI : w3.drew.heap.size ≤ g) (cg : wI.cell? ⟨g, 0, none⟩ = some (.string i))
    (hgrowA : (wI.alloc o).grownBy wA av.ownBlock) (hownA : wA.ownsRow B 49 6 (.slice (some ⟨g', 0, none⟩) (ks.length + 1) cap') (ks.length + 1) (ks.flatMap KE.enc ++ [.int .i64 0, .string i, .string x, .slice none 0 0, .slice (some ⟨g, 0, none⟩) 1 1, .string t]))
    (hat : av.ownBlock = some g' ∨ g' = (wI.alloc o).heap.size) (hbA : wA.heap[ab]? = some (.cells #[av] 43)) (kA : ∀ (b j : Nat) (v : Value), av.ownBlock ≠ some b → wI.cell? ⟨b, j, none⟩ = some v → wA.cell? ⟨b, j, none⟩ = some v) (ra : av.ownBlock ≠ some ab) (hBI : B ≤ wI.heap.size) :
    ∃ av' ks', AllAt (wA.setCell ⟨ab, 0, none⟩ (.slice (some ⟨g', 0, none⟩) (ks.length + 1) cap')) ab B av' ks' ∧ exs ks' = addL (exs ks) (i, x) ∧ ks'.length ≤ ks.length + 1 ∧ Moved w (wA.setCell ⟨ab, 0, none⟩ (.slice (some ⟨g', 0, none⟩) (ks.length + 1) cap')) (fun b => b = ab ∨ av.ownBlock = some b) ∧ (av'.ownBlock = av.ownBlock ∨ ∃ q, av'.ownBlock = some q ∧ w.heap.size ≤ q) := by
  have hw3 : w3.heap.size ≤ g := hgI
  have hwI : w3.heap.size ≤ wI.heap.size := hbI.size
  have hrow : ∀ q, av.ownBlock = some q → q < w3.heap.size := fun q e => by
    rcases Joins.ownsRow_forms h4.row with ⟨h1, _⟩ | ⟨q', c, h1⟩
    · rw [h1] at e; cases e
    · have := h4.row
      rw [h1] at this e
      cases e
      obtain ⟨cur, hc, _⟩ := own_blk this
      exact blk_lt hc
  have hgr : av.ownBlock ≠ some g := fun e => by have := hrow g e; omega
  obtain ⟨cur, hg', hBg', hnc, hcm, hcs, htk⟩ := own_blk hownA
  have hg'ab : g' ≠ ab := (ne_of_type hbA hg' (by decide)).symm
  have hfirst : ∃ z, wA.cell? ⟨g', 0, none⟩ = some (.int .i64 z) := by
    rw [cell_of_row _ _ _ _ _ _ hg']
    have h1 : (cur.toList.take ((ks.length + 1) * 6))[0]? = cur[0]? := by rw [List.getElem?_take, if_pos (by omega)]; simp
    rw [← h1, htk]
    cases ks with
    | nil => exact ⟨0, rfl⟩
    | cons k ks => exact ⟨0, rfl⟩
  have hng : ∀ (b : Nat) (s : ByteArray), wA.cell? ⟨b, 0, none⟩ = some (.string s) → b ≠ g' := by
    rintro b s hc rfl
    obtain ⟨z, hz⟩ := hfirst
    rw [hz] at hc
    cases hc
  have hset : ∀ (b : Nat) (v : Value), b ≠ ab → wA.cell? ⟨b, 0, none⟩ = some v → (wA.setCell ⟨ab, 0, none⟩ (.slice (some ⟨g', 0, none⟩) (ks.length + 1) cap')).cell? ⟨b, 0, none⟩ = some v := fun b v hne hc => by
    rw [World.cell?_setCell_other (h := fun e => hne (congrArg Addr.block e).symm)]; exact hc
  have hgab : g ≠ ab := by have := blk_lt h4.blk; omega
  refine ⟨.slice (some ⟨g', 0, none⟩) (ks.length + 1) cap', ks ++ [(i, x, g)], ⟨?_, h4.lo, ?_, ?_, fun e => by simp at e⟩, ?_, by simp, ?_, ?_⟩
  · exact blk_same hbA 0 _
  · have e1 : (ks ++ [(i, x, g)]).flatMap KE.enc = ks.flatMap KE.enc ++ [.int .i64 0, .string i, .string x, .slice none 0 0, .slice (some ⟨g, 0, none⟩) 1 1, .string t] := by
      rw [List.flatMap_append, ht]
      rfl
    have e2 : (ks ++ [(i, x, g)]).length = ks.length + 1 := by simp
    rw [e1, e2]
    exact own_keep hownA fun o' ho' => blk_set ho' (by simpa using hg'ab) _
  · intro k hk
    rcases List.mem_append.1 hk with hk | hk
    · obtain ⟨c1, c2, c3, c4⟩ := hAI.ids k hk
      have c5 := kA _ _ _ c3 c1
      exact ⟨hset _ _ c4 c5, c2, fun e => hng _ _ c5 (by simpa [Value.ownBlock] using e.symm), c4⟩
    · simp only [List.mem_cons, List.mem_nil_iff, or_false] at hk
      subst hk
      have c5 := kA _ _ _ hgr cg
      have := h4.lo
      have := blk_lt h4.blk
      exact ⟨hset _ _ hgab c5, by show B ≤ g; omega, fun e => hng _ _ c5 (by simpa [Value.ownBlock] using e.symm), hgab⟩
  · simp only [addL, if_neg h0, ← hf, Bool.false_eq_true, if_false]
    simp [exs]
  · have hM3 : Moved w w3 (fun b => b = ab ∨ av.ownBlock = some b) := ⟨m4.os, m4.tape, m4.output, m4.size, fun b hb _ => m4.block b hb id⟩
    have hMI := hM3.drew.trans (Moved.of_below hbI) fun b hb => .inr (by have := m4.size; have : w3.heap.size ≤ b := hb; omega)
    have hMA := (hMI.trans (Moved.alloc wI o (fun _ => False)) fun b hb => hb.elim).trans (Moved.of_grown hgrowA) fun b hb => .inl (.inr hb)
    exact hMA.trans (Moved.setCell _ _ _) fun b hb => .inl (.inl hb)
  · rcases hat with hat | hat
    · exact .inl hat.symm
    · exact .inr ⟨g', rfl, by have := m4.size; simp at hat; omega⟩

set_option maxHeartbeats 2000000 in
set_option maxRecDepth 100000 in
theorem add_simple (i x : ByteArray) (opb adb ab B : Nat) (av : Value) (ks : List KE) (w : World) (h : AllAt w ab B av ks) (hop : w.cell? ⟨opb, 0, none⟩ = some (.int .i64 1)) (hl : ks.length ≤ 9999) (hi : i.size ≤ 100) (hx : x.size ≤ 100) (hB : B ≤ w.heap.size) :
    Calls Ybaf.prog 16 #[.agg #[.int .i64 0, .string i, .string x, .slice none 0 0], .pointer (some ⟨opb, 0, none⟩), .pointer (some ⟨adb, 0, none⟩), .pointer (some ⟨ab, 0, none⟩)] w fun e w' => e = .returned (.tuple #[]) ∧
      ∃ av' ks', AllAt w' ab B av' ks' ∧ exs ks' = addL (exs ks) (i, x) ∧ ks'.length ≤ ks.length + 1 ∧ Moved w w' (fun b => b = ab ∨ av.ownBlock = some b) ∧ (av'.ownBlock = av.ownBlock ∨ ∃ q, av'.ownBlock = some q ∧ w.heap.size ≤ q) := by
  have hol := World.block_lt_of_cell? w _ hop
  have o1 : ∀ o, (w.alloc o).cell? ⟨opb, 0, none⟩ = some (.int .i64 1) := fun o => by rw [World.cell?_alloc_lt _ _ _ hol]; exact hop
  by_cases h0 : i = noStr
  · have q0 := em_t h0
    have hA : addL (exs ks) (i, x) = exs ks := by simp [addL, h0]
    rw [hA]
    clear hA h0
    go_enter Ybaf.func16, Ybaf.ntmps16
    go_wp2_with fail
    go_end0
    exact ⟨rfl, av, ks, h.keep fun b hb => Below.heap_alloc _ _ _ hb, rfl, by omega, Moved.alloc _ _ _, .inl rfl⟩
  · have q0 := em_f h0
    obtain ⟨t, ht⟩ : ∃ t, t = textOf i x := ⟨_, rfl⟩
    have hstr := fun W => string_any i x W hi hx
    rw [← ht] at hstr
    have hstr' : ∀ W, Calls Ybaf.prog 17 #[.agg #[.int .i64 0, .string i, .string x, .slice none 0 0]] W fun e w' => Hid (e = .returned (.string t) ∧ Below W.heap.size W w') := hstr
    clear hstr
    have hcon := fun tb W hW hc => con18_any ab B av ks t tb W hW hc (by omega)
    obtain ⟨f, hf⟩ : ∃ f, f = (ks.any fun k => (textOf k.i k.x).toList == t.toList) := ⟨_, rfl⟩
    rw [← hf] at hcon
    have HF : Hid (f = (exs ks).any fun k => (textOf k.1 k.2).toList == (textOf i x).toList) := by show f = _; rw [hf, any_exs, ht]
    have HT : Hid (t = textOf i x) := ht
    clear hf ht
    have b0 : (w.alloc (.cells #[.int .i64 0, .string i, .string x, .slice none 0 0] 31)).heap[w.heap.size]? = some (.cells #[.int .i64 0, .string i, .string x, .slice none 0 0] 31) := blk_new _ _
    have h1 : AllAt (w.alloc (.cells #[.int .i64 0, .string i, .string x, .slice none 0 0] 31)) ab B av ks := h.keep fun b hb => Below.heap_alloc _ _ _ hb
    have m1 : Moved w (w.alloc (.cells #[.int .i64 0, .string i, .string x, .slice none 0 0] 31)) (fun _ => False) := Moved.alloc _ _ _
    go_enter Ybaf.func16, Ybaf.ntmps16
    go_wp2_with (go_at_call 17; refine (hstr' _).mono ?_)
    intro e w1 hp1
    obtain ⟨rfl, hb1⟩ := hp1.out
    have b1 := blk_below b0 hb1 (by simp)
    have h2 := h1.below (by simpa using hb1)
    have m2 : Moved w w1 (fun _ => False) := m1.trans (Moved.of_below hb1) fun i hi => .inr (by omega)
    clear hb1 h1 m1 b0
    have hw1 : (w1.alloc (.cells #[.string t] 9)).cell? ⟨w1.heap.size, 0, none⟩ = some (.string t) := by rw [cell_of_row _ _ _ _ _ _ (blk_new w1 _)]; rfl
    have h3 : AllAt (w1.alloc (.cells #[.string t] 9)) ab B av ks := h2.keep fun b hb => Below.heap_alloc _ _ _ hb
    have b2 := blk_alloc b1 (.cells #[.string t] 9)
    have t2 : (w1.alloc (.cells #[.string t] 9)).heap[w1.heap.size]? = some (.cells #[.string t] 9) := blk_new _ _
    have m3 : Moved w (w1.alloc (.cells #[.string t] 9)) (fun _ => False) := m2.trans (Moved.alloc _ _ (fun _ => False)) fun i hi => .inl hi
    have c3 : (w1.alloc (.cells #[.string t] 9)).cell? ⟨ab, 0, none⟩ = some av := by rw [cell_of_row _ _ _ _ _ _ h3.blk]; rfl
    have hc18 : Calls Ybaf.prog 18 _ _ fun e w' => Hid (e = .returned (.bool f) ∧ Below (w1.alloc (.cells #[.string t] 9)).heap.size (w1.alloc (.cells #[.string t] 9)) w') := hcon _ _ h3 hw1
    generalize hX : w1.alloc (.cells #[.string t] 9) = X at *
    go_upto_region 9 with fail
    clear hX
    go_wp2_with (go_at_call 18; refine hc18.mono ?_)
    intro e w3 hp3
    obtain ⟨rfl, hb3⟩ := hp3.out
    have b3 := blk_below b2 hb3 (blk_lt b2)
    have t3 := blk_below t2 hb3 (blk_lt t2)
    have h4 := h3.below hb3
    have m4 : Moved w w3 (fun _ => False) := m3.trans (Moved.of_below hb3) fun i hi => .inr (by have := m3.size; omega)
    clear hb3 h3 m3 hc18 hcon hstr' c3 hw1 hp1 hp3
    cases f with
    | true =>
      go_wp2_with fail
      go_end0
      refine ⟨rfl, av, ks, h4, ?_, by omega, ⟨m4.os, m4.tape, m4.output, m4.size, fun b hb _ => m4.block b hb id⟩, .inl rfl⟩
      simp only [addL, if_neg h0, ← HF.out, if_true]
    | false =>
      have e0 : w3.cell? ⟨w.heap.size, 0, none⟩ = some (.int .i64 0) := by rw [cell_of_row _ _ _ _ _ _ b3]; rfl
      have e1 : w3.cell? ⟨w.heap.size, 1, none⟩ = some (.string i) := by rw [cell_of_row _ _ _ _ _ _ b3]; rfl
      have e2 : w3.cell? ⟨w.heap.size, 2, none⟩ = some (.string x) := by rw [cell_of_row _ _ _ _ _ _ b3]; rfl
      have e3 : w3.cell? ⟨w.heap.size, 3, none⟩ = some (.slice none 0 0) := by rw [cell_of_row _ _ _ _ _ _ b3]; rfl
      have et : w3.cell? ⟨w1.heap.size, 0, none⟩ = some (.string t) := by rw [cell_of_row _ _ _ _ _ _ t3]; rfl
      have ea : w3.cell? ⟨ab, 0, none⟩ = some av := by rw [cell_of_row _ _ _ _ _ _ h4.blk]; rfl
      have l0 := blk_lt b3
      have l1 := blk_lt t3
      have l2 := blk_lt h4.blk
      have hids : ∀ W, Calls Ybaf.prog 20 #[.agg #[.int .i64 0, .string i, .string x, .slice none 0 0]] W fun e w' => Hid (∃ g, e = .returned (.slice (some ⟨g, 0, none⟩) 1 1) ∧ w'.cell? ⟨g, 0, none⟩ = some (.string i) ∧ W.heap.size ≤ g ∧ Below W.heap.size W w') := fun W => ids_any i x W h0
      obtain ⟨n0, hn0⟩ : ∃ n0, n0 = w.heap.size := ⟨_, rfl⟩
      obtain ⟨n1, hn1⟩ : ∃ n1, n1 = w1.heap.size := ⟨_, rfl⟩
      go_upto_region 10 with fail
      rw [← hn0] at e0 e1 e2 e3 l0 b3
      rw [← hn1] at et l1 t3
      rw [← hn0, ← hn1]
      clear b1 b2 t2 hn0 hn1
      have d0a : n0 ≠ ab := ne_of_type b3 h4.blk (by decide)
      have d1a : n1 ≠ ab := ne_of_type t3 h4.blk (by decide)
      have r0 : av.ownBlock ≠ some n0 := fun e => row_ne6 h4.row e b3 (by decide)
      have r1 : av.ownBlock ≠ some n1 := fun e => row_ne6 h4.row e t3 (by decide)
      have ra : av.ownBlock ≠ some ab := fun e => row_ne6 h4.row e h4.blk (by decide)
      refine wp_region_back (S := fun w' => w'.cell? ⟨n0, 0, none⟩ = some (.int .i64 0) ∧ w'.cell? ⟨n0, 1, none⟩ = some (.string i) ∧ w'.cell? ⟨n0, 2, none⟩ = some (.string x) ∧ w'.cell? ⟨n0, 3, none⟩ = some (.slice none 0 0) ∧ w'.cell? ⟨n1, 0, none⟩ = some (.string t) ∧ w'.cell? ⟨ab, 0, none⟩ = some av) (by kernel_rfl) rfl (by kernel_rfl) (by kernel_rfl) (by kernel_rfl) ⟨e0, e1, e2, e3, et, ea⟩ (fun hS => ?_)
      refine wpAnyH_take (i := 0) (v := av) rfl (by kernel_rfl) (by kernel_rfl) (by kernel_rfl) (fun _ _ _ h => h) (Or.inl ⟨by rfl, fun W hW => ?_⟩) hS ?_
      · obtain ⟨s0, s1, s2, s3, s4, s5⟩ := hW
        go_simp
      try simp only [Act.put, List.setIfInBounds_toArray, List.set_cons_zero, List.set_cons_succ]
      refine wpAnyH_take (i := 1) (v := .agg #[.int .i64 0, .string i, .string x, .slice none 0 0]) rfl (by kernel_rfl) (by kernel_rfl) (by kernel_rfl) (fun _ _ _ h => h) (Or.inl ⟨by rfl, fun W hW => ?_⟩) hS ?_
      · obtain ⟨s0, s1, s2, s3, s4, s5⟩ := hW
        go_simp
      try simp only [Act.put, List.setIfInBounds_toArray, List.set_cons_zero, List.set_cons_succ]
      refine wpAnyH_take (i := 2) (v := .agg #[.int .i64 0, .string i, .string x, .slice none 0 0]) rfl (by kernel_rfl) (by kernel_rfl) (by kernel_rfl) (fun _ _ _ h => h) (Or.inl ⟨by rfl, fun W hW => ?_⟩) hS ?_
      · obtain ⟨s0, s1, s2, s3, s4, s5⟩ := hW
        go_simp
      try simp only [Act.put, List.setIfInBounds_toArray, List.set_cons_zero, List.set_cons_succ]
      refine wpAnyH_take (i := 4) (v := .string t) rfl (by kernel_rfl) (by kernel_rfl) (by kernel_rfl) (fun _ _ _ h => h) (Or.inl ⟨by rfl, fun W hW => ?_⟩) hS ?_
      · obtain ⟨s0, s1, s2, s3, s4, s5⟩ := hW
        go_simp
      try simp only [Act.put, List.setIfInBounds_toArray, List.set_cons_zero, List.set_cons_succ]
      refine wpAnyH_ready (rs := [3]) (by kernel_rfl) (by simp) (AllReadyH.cons rfl (fun K hK => ?_) AllReadyH.nil)
      rw [if_pos (by rfl)]
      go_simp
      refine (hids _).mono ?_
      intro e wI hpI
      obtain ⟨g, rfl, cg, hgI, hbI⟩ := hpI.out
      clear hpI hS
      obtain ⟨⟨k0, k1, k2, k3, kt, ka⟩, kk⟩ := after20 hbI l0 l1 l2 e0 e1 e2 e3 et ea
      refine hK.out _ _ ⟨k0, k1, k2, k3, kt, ka⟩ (fun hS => ?_)
      clear hK K
      try simp only [Act.put, List.setIfInBounds_toArray, List.set_cons_zero, List.set_cons_succ]
      refine wpAnyH_take (i := 5) (v := .agg #[.int .i64 0, .string i, .string x, .slice none 0 0, .slice (some ⟨g, 0, none⟩) 1 1, .string t]) rfl (by kernel_rfl) (by kernel_rfl) (by kernel_rfl) (fun _ _ _ h => h) (Or.inl ⟨by rfl, fun W hW => ?_⟩) hS ?_
      · obtain ⟨s0, s1, s2, s3, s4, s5⟩ := hW
        go_simp
      try simp only [Act.put, List.setIfInBounds_toArray, List.set_cons_zero, List.set_cons_succ]
      refine wpAnyH_ready (rs := [6]) (by kernel_rfl) (by simp) (AllReadyH.cons rfl (fun K hK => ?_) AllReadyH.nil)
      rw [if_pos (by rfl)]
      go_simp
      refine hK.out _ _ (kk _) (fun hS => ?_)
      clear hK K
      try simp only [Act.put, List.setIfInBounds_toArray, List.set_cons_zero, List.set_cons_succ]
      refine wpAnyH_ready (rs := [7]) (by kernel_rfl) (by simp) (AllReadyH.cons rfl (fun K hK => ?_) AllReadyH.nil)
      have hAI : AllAt wI ab B av ks := (h4.keep (w' := w3.drew) fun _ _ => rfl).below hbI
      have hBI : B ≤ wI.heap.size := by have := hbI.size; have := m4.size; simp at *; omega
      refine step_appk rfl _ _ 43 rfl B 49 _ 6 104 Ybaf.underlying43 info49 rfl (by omega) av ks.length (ks.flatMap KE.enc) rfl (hAI.row.alloc _) wI.heap.size 1 [.int .i64 0, .string i, .string x, .slice none 0 0, .slice (some ⟨g, 0, none⟩) 1 1, .string t] rfl rfl (cells_of_block (cs := #[.int .i64 0, .string i, .string x, .slice none 0 0, .slice (some ⟨g, 0, none⟩) 1 1, .string t]) (t := 49) (blk_new wI _)) (by simp [Value.oneCell']) (by unfold maxLen; omega) (by omega) (by simp; omega) ?_
      intro g' cap' wA hownA hgrowA hat
      have kA : ∀ (b j : Nat) (v : Value), av.ownBlock ≠ some b → wI.cell? ⟨b, j, none⟩ = some v → wA.cell? ⟨b, j, none⟩ = some v := by
        intro b j v hne hc
        have hlt := World.block_lt_of_cell? wI _ hc
        have hc2 : (wI.alloc (.cells #[.int .i64 0, .string i, .string x, .slice none 0 0, .slice (some ⟨g, 0, none⟩) 1 1, .string t] 49)).cell? ⟨b, j, none⟩ = some v := by rw [World.cell?_alloc_lt _ _ _ hlt]; exact hc
        rw [World.cell?_of_block (w := wI.alloc _) (hgrowA.block b (by simp; exact Nat.lt_succ_of_lt hlt) (fun e => hne e.symm))]
        exact hc2
      have hbA : wA.heap[ab]? = some (.cells #[av] 43) := blk_grown (blk_alloc hAI.blk _) hgrowA (fun e => ra e.symm)
      have fA : wA.frozen? ⟨ab, 0, none⟩ = false := frozen_of_row _ ab 0 _ 43 hbA
      have cA : wA.cell? ⟨ab, 0, none⟩ = some av := kA _ _ _ ra ka
      refine hK.out _ _ ⟨kA _ _ _ r0 k0, kA _ _ _ r0 k1, kA _ _ _ r0 k2, kA _ _ _ r0 k3, kA _ _ _ r1 kt, cA⟩ (fun hS => ?_)
      clear hK K
      try simp only [Act.put, List.setIfInBounds_toArray, List.set_cons_zero, List.set_cons_succ]
      refine wpAnyH_done (by kernel_rfl) ?_ _
      unfold before
      have hfin : ∃ av' ks', AllAt (wA.setCell ⟨ab, 0, none⟩ (.slice (some ⟨g', 0, none⟩) (ks.length + 1) cap')) ab B av' ks' ∧ exs ks' = addL (exs ks) (i, x) ∧ ks'.length ≤ ks.length + 1 ∧ Moved w (wA.setCell ⟨ab, 0, none⟩ (.slice (some ⟨g', 0, none⟩) (ks.length + 1) cap')) (fun b => b = ab ∨ av.ownBlock = some b) ∧ (av'.ownBlock = av.ownBlock ∨ ∃ q, av'.ownBlock = some q ∧ w.heap.size ≤ q) := by
        exact add_fin h0 HF.out HT.out m4 h4 hAI hbI hgI cg hgrowA hownA hat hbA kA ra hBI
      clear kA hgrowA hownA hat hAI kk
      go_simp
      go_end0
      exact ⟨rfl, hfin⟩
end Go.Proofs.YbulkexpecFmt
