/- LawS194118BWhole: statement.Joined (5). -/
import Derived.Test.YbulkexpecFmtTags
import Derived.Test.YbulkexpecFmtLast2
import Derived.Deep.DeepCutAuto
namespace Go.Proofs.YbulkexpecFmt
open Go.RowKit Go.PK Go.Shelf Go.RegInv
set_option linter.unusedVariables false
set_option linter.unusedSimpArgs false

theorem idT_size (k : Int) : (idT k).size ≤ 100 := by
  unfold idT
  repeat' split
  all_goals decide
theorem excT_size (k : Int) : (excT k).size ≤ 100 := by
  unfold excT
  repeat' split
  all_goals decide

/-- What one tag does to what is joined. -/
def JStep (acc : List TG) (t : IT) (acc' : List TG) : Prop :=
  (acc' = acc ++ [⟨t.s, t.e, .inl t.ex, t.c⟩] ∧ (0 < t.c → ∀ g ∈ acc, g.c ≠ t.c)) ∨
  ∃ k, ∃ y : XE, 0 < t.c ∧ ∃ hk : k < acc.length, acc[k].c = t.c ∧ JoinOut (dd acc[k].x t.ex) y ∧ acc' = acc.set k ⟨acc[k].s, acc[k].e, y, acc[k].c⟩
def JRun (T : Nat → IT) : Nat → List TG → Prop
  | 0, acc => acc = []
  | j + 1, acc' => ∃ acc, JRun T j acc ∧ JStep acc (T j) acc'

theorem addL_mem {es : List EX} {e p : EX} (h : p ∈ addL es e) : p ∈ es ∨ p = e := by
  unfold addL at h
  split at h
  · exact .inl h
  · split at h
    · exact .inl h
    · simpa using h
theorem addL_len (es : List EX) (e : EX) : (addL es e).length ≤ es.length + 1 := by
  unfold addL
  split
  · omega
  · split
    · omega
    · simp
theorem foldl_addL_mem {l es : List EX} {p : EX} (h : p ∈ l.foldl addL es) : p ∈ es ∨ p ∈ l := by
  induction l generalizing es with
  | nil => exact .inl h
  | cons a l ih =>
    rcases ih h with h1 | h1
    · rcases addL_mem h1 with h2 | h2
      · exact .inl h2
      · exact .inr (by simp [h2])
    · exact .inr (by simp [h1])
theorem foldl_addL_len (l es : List EX) : (l.foldl addL es).length ≤ es.length + l.length := by
  induction l generalizing es with
  | nil => simp
  | cons a l ih =>
    have h1 := ih (addL es a)
    have h2 := addL_len es a
    simp only [List.foldl_cons, List.length_cons]
    omega
/-- How long an expression's parts are. -/
def XOk (m : Nat) (x : XE) : Prop := Short (flat x) ∧ (flat x).length ≤ m
theorem Moved.of_below_size {w w' : World} (h : Below w.heap.size w w') : Moved w w' (fun _ => False) := ⟨h.os, h.tape, h.output, h.size, fun b hb _ => h.block b hb⟩
theorem joinOut_ok {x : XE} {e : EX} {y : XE} {m : Nat} (h : JoinOut (dd x e) y) (hx : XOk m x) (he : e.1.size ≤ 100 ∧ e.2.size ≤ 100) : XOk (m + 1) y := by
  have hl : (dd x e).length ≤ m + 1 := by
    have := foldl_addL_len (flat x ++ [e]) []
    have h2 := hx.2
    simp only [List.length_append, List.length_cons, List.length_nil] at this
    unfold dd
    omega
  have hS : Short (dd x e) := fun p hp => by
    rcases foldl_addL_mem hp with h1 | h1
    · simp at h1
    · rcases List.mem_append.1 h1 with h2 | h2
      · exact hx.1 p h2
      · rw [List.mem_singleton.1 h2]; exact he
  rcases h with ⟨h1, rfl⟩ | ⟨e0, h1, rfl⟩ | ⟨h1, l, rfl, h2, _⟩
  · refine ⟨fun p hp => ?_, by simp [flat]⟩
    have : p = (noStr, noStr) := by simpa [flat] using hp
    rw [this]
    exact ⟨by decide, by decide⟩
  · refine ⟨fun p hp => ?_, by simp [flat]⟩
    have : p = e0 := by simpa [flat] using hp
    rw [this]
    exact hS e0 (by rw [h1]; simp)
  · exact ⟨fun p hp => hS p (h2.mem_iff.1 hp), by show l.length ≤ _; rw [h2.length_eq]; exact hl⟩
theorem JRun.ok {T : Nat → IT} : ∀ {j : Nat} {acc : List TG}, JRun T j acc → acc.length ≤ j ∧ ∀ g ∈ acc, XOk j g.x
  | 0, acc, h => by
    have : acc = [] := h
    subst this
    exact ⟨by simp, fun g hg => by simp at hg⟩
  | j + 1, acc', h => by
    obtain ⟨acc, h1, h2⟩ := h
    obtain ⟨i1, i2⟩ := JRun.ok h1
    have hup : ∀ x, XOk j x → XOk (j + 1) x := fun x hx => ⟨hx.1, by have := hx.2; omega⟩
    rcases h2 with ⟨rfl, _⟩ | ⟨k, y, _, hk, _, hy, rfl⟩
    · refine ⟨by simp; omega, fun g hg => ?_⟩
      rcases List.mem_append.1 hg with hg | hg
      · exact hup _ (i2 g hg)
      · rw [List.mem_singleton.1 hg]
        refine ⟨fun p hp => ?_, by simp [flat]⟩
        have : p = (T j).ex := by simpa [flat] using hp
        rw [this]
        exact ⟨idT_size _, excT_size _⟩
    · refine ⟨by simp; omega, fun g hg => ?_⟩
      rcases List.mem_or_eq_of_mem_set hg with hg | rfl
      · exact hup _ (i2 g hg)
      · exact joinOut_ok hy (i2 _ (List.getElem_mem hk)) ⟨idT_size _, excT_size _⟩

/-- The tags that Joined is handed. -/
def SrcAt (w : World) (p : Option Addr) (n : Nat) (T : Nat → IT) : Prop :=
  ∀ k, k < n → ∃ g, p = some ⟨g, 0, none⟩ ∧ Tag7 w g k (T k).s (T k).e (.int .i64 0) (.string (T k).ex.1) (.string (T k).ex.2) (.slice none 0 0) (T k).c
theorem SrcAt.moved {w w' : World} {p : Option Addr} {n : Nat} {T : Nat → IT} (h : SrcAt w p n T) (hm : Moved w w' (fun _ => False)) : SrcAt w' p n T := fun k hk => by
  obtain ⟨g, h1, h2⟩ := h k hk
  exact ⟨g, h1, h2.keep fun j v hc => hm.cell hc (fun h => h)⟩

set_option maxHeartbeats 4000000 in
set_option maxRecDepth 100000 in
theorem joined_any (p : Option Addr) (n cap : Nat) (T : Nat → IT) (w : World) (hsrc : SrcAt w p n T) (hn : n ≤ 4096) :
    Calls Ybaf.prog 5 #[.slice p n cap] w fun r w' => Hid (∃ jv vs ts, r = .returned jv ∧ RowAt w' w.heap.size jv vs ts ∧ JRun T n ts ∧ Moved w w' (fun _ => False)) := by
  obtain ⟨B, hB⟩ : ∃ B, B = w.heap.size := ⟨_, rfl⟩
  have HB : Hid (B = w.heap.size) := hB
  clear hB
  go_enter Ybaf.func5, Ybaf.ntmps5
  go_wp2_with fail
  go_loopw [3, 9] (fun v3 i y => Hid (∃ (j : Nat) (vs : List TV) (ts : List TG), j ≤ n ∧ i = .int .i64 (j : Int) ∧ RowAt y B v3 vs ts ∧ JRun T j ts ∧ Moved w y (fun _ => False))) (fun _ i _ => n - (intOf i).toNat)
  case atStart => exact ⟨0, [], [], by omega, rfl, ⟨World.ownsRow_nil _ _ _ _, rfl, fun j h => absurd h (by simp), fun _ => rfl⟩, rfl, Moved.refl _ _⟩
  case round =>
    obtain ⟨j, vs, ts, hj, rfl, hR, hJ, hmv⟩ := hrel.out
    clear hrel
    by_cases hlt : j < n
    · obtain ⟨sg, rfl, hsg⟩ := hsrc.moved hmv j hlt
      obtain ⟨hlen, hok⟩ := hJ.ok
      have hvl : vs.length ≤ 10000 := by rw [hR.len]; omega
      have hBw : B ≤ wr.heap.size := by rw [HB.out]; exact hmv.size
      obtain ⟨c0, c1, c2, c3, c4, c5, c6⟩ := hsg
      generalize hT1 : (T j).s = ts1 at *
      generalize hT2 : (T j).e = te at *
      generalize hT3 : (T j).ex.1 = ti at *
      generalize hT4 : (T j).ex.2 = tx at *
      generalize hT5 : (T j).c = tc at *
      obtain ⟨o1, ho1⟩ : ∃ o1 : Obj, o1 = .cells #[.int .i64 ts1, .int .i64 te, .int .i64 0, .string ti, .string tx, .slice none 0 0, .int .i64 tc] 34 := ⟨_, rfl⟩
      have hR1 : RowAt (wr.alloc o1) B u3 vs ts := hR.moved (Moved.alloc _ _ _)
      have hm1 : Moved w (wr.alloc o1) (fun _ => False) := hmv.trans (Moved.alloc _ _ (fun _ => False)) (fun _ h => h.elim)
      have hb1 : (wr.alloc o1).heap[wr.heap.size]? = some (.cells #[.int .i64 ts1, .int .i64 te, .int .i64 0, .string ti, .string tx, .slice none 0 0, .int .i64 tc] 34) := by rw [ho1]; exact blk_new _ _
      have d6 : (wr.alloc o1).cell? ⟨wr.heap.size, 6, none⟩ = some (.int .i64 tc) := by rw [cell_of_row _ _ _ _ _ _ hb1]; rfl
      have hix := idx9_any wr.heap.size B u3 vs ts tc (wr.alloc o1) hR1 d6 hvl
      go_upto_region 5 with fail
      rw [← ho1]
      have HO : Hid (o1 = .cells #[.int .i64 ts1, .int .i64 te, .int .i64 0, .string ti, .string tx, .slice none 0 0, .int .i64 tc] 34) := ho1
      clear ho1
      go_wp2_with (go_at_call 9; refine hix.mono ?_)
      intro rr W2 hp
      obtain ⟨r, rfl, hcase, hb2⟩ := hp.out
      clear hp hix
      have hm2 : Moved (wr.alloc o1) W2 (fun _ => False) := Moved.of_below_size hb2
      have hm12 : Moved w W2 (fun _ => False) := hm1.trans hm2 (fun _ h => h.elim)
      have hR2 := hR1.moved hm2
      have hb3 : W2.heap[wr.heap.size]? = some (.cells #[.int .i64 ts1, .int .i64 te, .int .i64 0, .string ti, .string tx, .slice none 0 0, .int .i64 tc] 34) := hm2.blk hb1 (fun h => h)
      have d0 : W2.cell? ⟨wr.heap.size, 0, none⟩ = some (.int .i64 ts1) := by rw [cell_of_row _ _ _ _ _ _ hb3]; rfl
      have d1 : W2.cell? ⟨wr.heap.size, 1, none⟩ = some (.int .i64 te) := by rw [cell_of_row _ _ _ _ _ _ hb3]; rfl
      have d2 : W2.cell? ⟨wr.heap.size, 2, none⟩ = some (.int .i64 0) := by rw [cell_of_row _ _ _ _ _ _ hb3]; rfl
      have d3 : W2.cell? ⟨wr.heap.size, 3, none⟩ = some (.string ti) := by rw [cell_of_row _ _ _ _ _ _ hb3]; rfl
      have d4 : W2.cell? ⟨wr.heap.size, 4, none⟩ = some (.string tx) := by rw [cell_of_row _ _ _ _ _ _ hb3]; rfl
      have d5 : W2.cell? ⟨wr.heap.size, 5, none⟩ = some (.slice none 0 0) := by rw [cell_of_row _ _ _ _ _ _ hb3]; rfl
      have d7 : W2.cell? ⟨wr.heap.size, 6, none⟩ = some (.int .i64 tc) := by rw [cell_of_row _ _ _ _ _ _ hb3]; rfl
      clear d6 hb1 hm1 hm2 hb2 hR1 c0 c1 c2 c3 c4 c5 c6 hR
      have hBW : B ≤ W2.heap.size := by rw [HB.out]; exact hm12.size
      have hszl : wr.heap.size < W2.heap.size := blk_lt hb3
      generalize wr.heap.size = tb at *
      rcases hcase with ⟨rfl, hno⟩ | ⟨k, rfl, h0, hk, hkc⟩
      · have hR3 : RowAt (W2.alloc (.cells #[.int .i64 ts1, .int .i64 te, .int .i64 0, .string ti, .string tx, .slice none 0 0, .int .i64 tc] 34)) B u3 vs ts := hR2.moved (Moved.alloc _ _ _)
        have hm3 : Moved w (W2.alloc (.cells #[.int .i64 ts1, .int .i64 te, .int .i64 0, .string ti, .string tx, .slice none 0 0, .int .i64 tc] 34)) (fun _ => False) := hm12.trans (Moved.alloc _ _ (fun _ => False)) (fun _ h => h.elim)
        have hb4 : (W2.alloc (.cells #[.int .i64 ts1, .int .i64 te, .int .i64 0, .string ti, .string tx, .slice none 0 0, .int .i64 tc] 34)).heap[W2.heap.size]? = some (.cells #[.int .i64 ts1, .int .i64 te, .int .i64 0, .string ti, .string tx, .slice none 0 0, .int .i64 tc] 34) := blk_new _ _
        go_wp2_with (refine wpList_appk _ rfl _ _ 23 rfl B 34 _ 7 88 Ybaf.underlying23 info34 rfl (by omega) u3 vs.length (vs.flatMap TV.enc) rfl hR3.row W2.heap.size 1 [.int .i64 ts1, .int .i64 te, .int .i64 0, .string ti, .string tx, .slice none 0 0, .int .i64 tc] rfl rfl (cells_of_block (cs := #[.int .i64 ts1, .int .i64 te, .int .i64 0, .string ti, .string tx, .slice none 0 0, .int .i64 tc]) (t := 34) hb4) (by simp [Value.oneCell']) (by unfold maxLen; omega) (by omega) (by simp; omega) ?happ)
        intro g' cap' wA hown hgrow _
        have hmA : Moved w wA (fun _ => False) := hm3.trans (Moved.of_grown hgrow) (fun b hb => .inr (by
          rcases Joins.ownsRow_forms hR3.row with ⟨h1, _⟩ | ⟨g, cap, h1⟩
          · rw [h1] at hb; simp [Value.ownBlock] at hb
          · have hrow := hR3.row
            rw [h1] at hrow hb
            obtain ⟨cur, hg, hBg, _⟩ := own_blk hrow
            simp [Value.ownBlock] at hb
            rw [← HB.out]; omega))
        have hkA : ∀ (k : Nat) (M : Array Value), (W2.alloc (.cells #[.int .i64 ts1, .int .i64 te, .int .i64 0, .string ti, .string tx, .slice none 0 0, .int .i64 tc] 34)).heap[k]? = some (Obj.cells M 31) → wA.heap[k]? = (W2.alloc (.cells #[.int .i64 ts1, .int .i64 te, .int .i64 0, .string ti, .string tx, .slice none 0 0, .int .i64 tc] 34)).heap[k]? := fun k M hM => hgrow.block k (blk_lt hM) (fun e => by
          rcases Joins.ownsRow_forms hR3.row with ⟨h1, _⟩ | ⟨g, cap, h1⟩
          · rw [h1] at e; simp [Value.ownBlock] at e
          · have hrow := hR3.row
            rw [h1] at hrow e
            obtain ⟨cur, hg, hBg, _⟩ := own_blk hrow
            simp [Value.ownBlock] at e
            subst e
            rw [hM] at hg
            cases hg)
        have hRA := hR3.push ⟨ts1, te, .int .i64 0, .string ti, .string tx, .slice none 0 0, tc⟩ ⟨ts1, te, .inl (ti, tx), tc⟩ ⟨rfl, rfl, rfl, ⟨rfl, rfl, rfl, rfl⟩⟩ hown hkA
        have hJA : JRun T (j + 1) (ts ++ [⟨ts1, te, .inl (ti, tx), tc⟩]) := ⟨ts, hJ, .inl ⟨by rw [hT1, hT2, hT5, show (T j).ex = (ti, tx) by rw [← hT3, ← hT4]], by rw [hT5]; exact hno⟩⟩
        clear hgrow hown hkA hR3 hm3 hb4
        go_wp2_with fail
        exact ⟨⟨j + 1, _, _, by omega, by simp, hRA, hJA, hmA⟩, by simp [intOf]; omega⟩
      · have hkv : k < vs.length := by rw [hR2.len]; exact hk
        obtain ⟨g, cap1, hu3⟩ := hR2.form (by omega)
        subst hu3
        have h7 := own7_tag hR2.row k hkv
        have hel := hR2.elt k hkv hk
        have hxk := hel.x
        obtain ⟨cur, hgb, hBg, _, _, _, _⟩ := own_blk hR2.row
        have hxok := hok _ (List.getElem_mem hk)
        generalize ha1 : vs[k].a = xa at *
        generalize hb1 : vs[k].b = xb at *
        generalize hc1 : vs[k].c = xc at *
        generalize hd1 : vs[k].d = xd at *
        obtain ⟨_, _, e2, e3, e4, e5, _⟩ := h7
        clear hel
        go_upto_region 8 with fail
        have hkS : ∀ (W : World) (o : Obj), (W.cell? ⟨g, k * 7 + 2, none⟩ = some xa ∧ W.cell? ⟨g, k * 7 + 3, none⟩ = some xb ∧ W.cell? ⟨g, k * 7 + 4, none⟩ = some xc ∧ W.cell? ⟨g, k * 7 + 5, none⟩ = some xd ∧ W.cell? ⟨tb, 2, none⟩ = some (.int .i64 0) ∧ W.cell? ⟨tb, 3, none⟩ = some (.string ti) ∧ W.cell? ⟨tb, 4, none⟩ = some (.string tx) ∧ W.cell? ⟨tb, 5, none⟩ = some (.slice none 0 0)) → ((W.alloc o).cell? ⟨g, k * 7 + 2, none⟩ = some xa ∧ (W.alloc o).cell? ⟨g, k * 7 + 3, none⟩ = some xb ∧ (W.alloc o).cell? ⟨g, k * 7 + 4, none⟩ = some xc ∧ (W.alloc o).cell? ⟨g, k * 7 + 5, none⟩ = some xd ∧ (W.alloc o).cell? ⟨tb, 2, none⟩ = some (.int .i64 0) ∧ (W.alloc o).cell? ⟨tb, 3, none⟩ = some (.string ti) ∧ (W.alloc o).cell? ⟨tb, 4, none⟩ = some (.string tx) ∧ (W.alloc o).cell? ⟨tb, 5, none⟩ = some (.slice none 0 0)) := fun W o h => ⟨by rw [World.cell?_alloc_lt _ _ _ (World.block_lt_of_cell? W _ h.1)]; exact h.1, by rw [World.cell?_alloc_lt _ _ _ (World.block_lt_of_cell? W _ h.2.1)]; exact h.2.1, by rw [World.cell?_alloc_lt _ _ _ (World.block_lt_of_cell? W _ h.2.2.1)]; exact h.2.2.1, by rw [World.cell?_alloc_lt _ _ _ (World.block_lt_of_cell? W _ h.2.2.2.1)]; exact h.2.2.2.1, by rw [World.cell?_alloc_lt _ _ _ (World.block_lt_of_cell? W _ h.2.2.2.2.1)]; exact h.2.2.2.2.1, by rw [World.cell?_alloc_lt _ _ _ (World.block_lt_of_cell? W _ h.2.2.2.2.2.1)]; exact h.2.2.2.2.2.1, by rw [World.cell?_alloc_lt _ _ _ (World.block_lt_of_cell? W _ h.2.2.2.2.2.2.1)]; exact h.2.2.2.2.2.2.1, by rw [World.cell?_alloc_lt _ _ _ (World.block_lt_of_cell? W _ h.2.2.2.2.2.2.2)]; exact h.2.2.2.2.2.2.2⟩
        obtain ⟨W3, hW3⟩ : ∃ W3, W3 = (W2.alloc (.cells #[xa, xb, xc, xd, .int .i64 0, .string ti, .string tx, .slice none 0 0] 31)).drew := ⟨_, rfl⟩
        have hb8 : W3.heap[W2.heap.size]? = some (.cells #[xa, xb, xc, xd, .int .i64 0, .string ti, .string tx, .slice none 0 0] 31) := by rw [hW3]; exact blk_new _ _
        have hj11 := join_any ts[k].x (ti, tx) xa xb xc xd W2.heap.size W3 (hxk.keep fun q M hq => by rw [hW3]; exact blk_alloc hq _ |>.trans hq.symm) hxok.1 ⟨by rw [← hT3]; exact idT_size _, by rw [← hT4]; exact excT_size _⟩ (by have := hxok.2; omega)
          (by rw [cell_of_row _ _ _ _ _ _ hb8]; rfl) (by rw [cell_of_row _ _ _ _ _ _ hb8]; rfl) (by rw [cell_of_row _ _ _ _ _ _ hb8]; rfl) (by rw [cell_of_row _ _ _ _ _ _ hb8]; rfl) (by rw [cell_of_row _ _ _ _ _ _ hb8]; rfl) (by rw [cell_of_row _ _ _ _ _ _ hb8]; rfl) (by rw [cell_of_row _ _ _ _ _ _ hb8]; rfl) (by rw [cell_of_row _ _ _ _ _ _ hb8]; rfl)
        rw [hW3] at hj11
        clear hW3 hb8 W3
        refine wp_region_back2 (S := fun w' => w'.cell? ⟨g, k * 7 + 2, none⟩ = some xa ∧ w'.cell? ⟨g, k * 7 + 3, none⟩ = some xb ∧ w'.cell? ⟨g, k * 7 + 4, none⟩ = some xc ∧ w'.cell? ⟨g, k * 7 + 5, none⟩ = some xd ∧ w'.cell? ⟨tb, 2, none⟩ = some (.int .i64 0) ∧ w'.cell? ⟨tb, 3, none⟩ = some (.string ti) ∧ w'.cell? ⟨tb, 4, none⟩ = some (.string tx) ∧ w'.cell? ⟨tb, 5, none⟩ = some (.slice none 0 0)) (by kernel_rfl) rfl (by kernel_rfl) (by kernel_rfl) (by kernel_rfl) ⟨e2, e3, e4, e5, d2, d3, d4, d5⟩ (fun hS => ?_)
        refine wpAnyH_take (i := 0) (v := .slice (some ⟨g, 0, none⟩) vs.length cap1) rfl (by kernel_rfl) (by kernel_rfl) (by kernel_rfl) (fun _ _ _ h => h) (Or.inl ⟨by rfl, fun W hW => ?_⟩) hS ?_
        · obtain ⟨s0, s1, s2, s3, s4, s5, s6, s7⟩ := hW
          go_simp
        try simp only [Act.put, List.setIfInBounds_toArray, List.set_cons_zero, List.set_cons_succ]
        refine wpAnyH_take (i := 1) (v := .int .i64 (k : Int)) rfl (by kernel_rfl) (by kernel_rfl) (by kernel_rfl) (fun _ _ _ h => h) (Or.inl ⟨by rfl, fun W hW => ?_⟩) hS ?_
        · obtain ⟨s0, s1, s2, s3, s4, s5, s6, s7⟩ := hW
          go_simp
        try simp only [Act.put, List.setIfInBounds_toArray, List.set_cons_zero, List.set_cons_succ]
        refine wpAnyH_take (i := 2) (v := .slice (some ⟨g, 0, none⟩) vs.length cap1) rfl (by kernel_rfl) (by kernel_rfl) (by kernel_rfl) (fun _ _ _ h => h) (Or.inl ⟨by rfl, fun W hW => ?_⟩) hS ?_
        · obtain ⟨s0, s1, s2, s3, s4, s5, s6, s7⟩ := hW
          go_simp
        try simp only [Act.put, List.setIfInBounds_toArray, List.set_cons_zero, List.set_cons_succ]
        refine wpAnyH_take (i := 3) (v := .int .i64 (k : Int)) rfl (by kernel_rfl) (by kernel_rfl) (by kernel_rfl) (fun _ _ _ h => h) (Or.inl ⟨by rfl, fun W hW => ?_⟩) hS ?_
        · obtain ⟨s0, s1, s2, s3, s4, s5, s6, s7⟩ := hW
          go_simp
        try simp only [Act.put, List.setIfInBounds_toArray, List.set_cons_zero, List.set_cons_succ]
        refine wpAnyH_take (i := 4) (v := .pointer (some ⟨g, k * 7, none⟩)) rfl (by kernel_rfl) (by kernel_rfl) (by kernel_rfl) (fun _ _ _ h => h) (Or.inl ⟨by rfl, fun W hW => ?_⟩) hS ?_
        · obtain ⟨s0, s1, s2, s3, s4, s5, s6, s7⟩ := hW
          go_simp
        try simp only [Act.put, List.setIfInBounds_toArray, List.set_cons_zero, List.set_cons_succ]
        refine wpAnyH_take (i := 5) (v := .pointer (some ⟨g, k * 7 + 2, none⟩)) rfl (by kernel_rfl) (by kernel_rfl) (by kernel_rfl) (fun _ _ _ h => h) (Or.inl ⟨by rfl, fun W hW => ?_⟩) hS ?_
        · obtain ⟨s0, s1, s2, s3, s4, s5, s6, s7⟩ := hW
          go_simp
        try simp only [Act.put, List.setIfInBounds_toArray, List.set_cons_zero, List.set_cons_succ]
        refine wpAnyH_take (i := 6) (v := .agg #[xa, xb, xc, xd]) rfl (by kernel_rfl) (by kernel_rfl) (by kernel_rfl) (fun _ _ _ h => h) (Or.inl ⟨by rfl, fun W hW => ?_⟩) hS ?_
        · obtain ⟨s0, s1, s2, s3, s4, s5, s6, s7⟩ := hW
          go_simp
        try simp only [Act.put, List.setIfInBounds_toArray, List.set_cons_zero, List.set_cons_succ]
        refine wpAnyH_take (i := 7) (v := .pointer (some ⟨tb, 2, none⟩)) rfl (by kernel_rfl) (by kernel_rfl) (by kernel_rfl) (fun _ _ _ h => h) (Or.inl ⟨by rfl, fun W hW => ?_⟩) hS ?_
        · obtain ⟨s0, s1, s2, s3, s4, s5, s6, s7⟩ := hW
          go_simp
        try simp only [Act.put, List.setIfInBounds_toArray, List.set_cons_zero, List.set_cons_succ]
        refine wpAnyH_take (i := 8) (v := .agg #[.int .i64 0, .string ti, .string tx, .slice none 0 0]) rfl (by kernel_rfl) (by kernel_rfl) (by kernel_rfl) (fun _ _ _ h => h) (Or.inl ⟨by rfl, fun W hW => ?_⟩) hS ?_
        · obtain ⟨s0, s1, s2, s3, s4, s5, s6, s7⟩ := hW
          go_simp
        try simp only [Act.put, List.setIfInBounds_toArray, List.set_cons_zero, List.set_cons_succ]
        refine wpAnyH_ready (rs := [9]) (by kernel_rfl) (by simp) (AllReadyH.cons rfl (fun K hK => ?_) AllReadyH.nil)
        rw [if_pos (by rfl)]
        go_simp
        refine hK.out _ _ (hkS _ _ hS) (fun hS => ?_)
        clear hK K
        try simp only [Act.put, List.setIfInBounds_toArray, List.set_cons_zero, List.set_cons_succ]
        refine wpAnyH_ready (rs := [10]) (by kernel_rfl) (by simp) (AllReadyH.cons rfl (fun K hK => ?_) AllReadyH.nil)
        rw [if_pos (by rfl)]
        go_simp
        refine hj11.mono ?_
        intro rr W4 hp4
        obtain ⟨a', b', c', d', y, rfl, hx4, hy4, hb4⟩ := hp4
        have hm4 : Moved W2 W4 (fun _ => False) := ((Moved.alloc W2 _ _).drew).trans (Moved.of_below_size hb4) (fun _ h => h.elim)
        clear hj11 hb4
        refine hK.out _ _ ⟨hm4.cell e2 (fun h => h), hm4.cell e3 (fun h => h), hm4.cell e4 (fun h => h), hm4.cell e5 (fun h => h), hm4.cell d2 (fun h => h), hm4.cell d3 (fun h => h), hm4.cell d4 (fun h => h), hm4.cell d5 (fun h => h)⟩ (fun hS => ?_)
        clear hK K
        try simp only [Act.put, List.setIfInBounds_toArray, List.set_cons_zero, List.set_cons_succ]
        refine wpAnyH_take (i := 11) (v := .pointer (some ⟨g, k * 7, none⟩)) rfl (by kernel_rfl) (by kernel_rfl) (by kernel_rfl) (fun _ _ _ h => h) (Or.inl ⟨by rfl, fun W hW => ?_⟩) hS ?_
        · obtain ⟨s0, s1, s2, s3, s4, s5, s6, s7⟩ := hW
          go_simp
        try simp only [Act.put, List.setIfInBounds_toArray, List.set_cons_zero, List.set_cons_succ]
        refine wpAnyH_take (i := 12) (v := .pointer (some ⟨g, k * 7 + 2, none⟩)) rfl (by kernel_rfl) (by kernel_rfl) (by kernel_rfl) (fun _ _ _ h => h) (Or.inl ⟨by rfl, fun W hW => ?_⟩) hS ?_
        · obtain ⟨s0, s1, s2, s3, s4, s5, s6, s7⟩ := hW
          go_simp
        try simp only [Act.put, List.setIfInBounds_toArray, List.set_cons_zero, List.set_cons_succ]
        refine wpAnyH_done (by kernel_rfl) ?_ _
        unfold before
        clear hkS
        have hgb4 : W4.heap[g]? = some (.cells cur 34) := hm4.blk hgb (fun h => h)
        have gf : ∀ q, W4.frozen? ⟨g, q, none⟩ = false := fun q => frozen_of_row _ _ _ _ _ hgb4
        have hRW := (hR2.moved hm4).put k hkv hk hx4
        have hmW : Moved w (put4x W4 g k a' b' c' d') (fun _ => False) := (hm12.trans hm4 (fun _ h => h.elim)).trans (put4x_moved _ _ _ _ _ _ _) (fun b hb => .inr (by rw [← HB.out]; omega))
        have hJW : JRun T (j + 1) (ts.set k ⟨ts[k].s, ts[k].e, y, ts[k].c⟩) := ⟨ts, hJ, .inr ⟨k, y, by rw [hT5]; exact h0, hk, by rw [hT5]; exact hkc, by rw [show (T j).ex = (ti, tx) by rw [← hT3, ← hT4]]; exact hy4, rfl⟩⟩
        obtain ⟨s0, s1, s2, s3, s4, s5, s6, s7⟩ := hS
        clear hR2 hm4
        cases y with
        | inl e0 =>
          obtain ⟨rfl, rfl, rfl, rfl⟩ := hx4
          go_simp
          go_wp2_with fail
          exact ⟨⟨j + 1, _, _, by omega, by simp, hRW, hJW, hmW⟩, by simp [intOf]; omega⟩
        | inr l0 =>
          obtain ⟨rfl, rfl, rfl, _, tg, cap2, M2, rfl, _, _⟩ := hx4
          go_simp
          go_wp2_with fail
          exact ⟨⟨j + 1, _, _, by omega, by simp, hRW, hJW, hmW⟩, by simp [intOf]; omega⟩
    · have hjn : j = n := by omega
      subst hjn
      go_wp2_with fail
      go_ret
      exact ⟨_, vs, ts, rfl, by rw [← HB.out]; exact hR, hJ, hmv⟩
end Go.Proofs.YbulkexpecFmt
