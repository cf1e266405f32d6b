/- LawS194118BWhole: rows of tags; Joined's closure (10) and slices.IndexFunc (9). -/
import Derived.Test.YbulkexpecFmtBuild
namespace Go.Proofs.YbulkexpecFmt
open Go.RowKit Go.PK Go.Shelf Go.RegInv
set_option linter.unusedVariables false
set_option linter.unusedSimpArgs false

/-- A tag's values. -/
structure TV where
  s : Int
  e : Int
  a : Value
  b : Value
  c : Value
  d : Value
  m : Int
def TV.enc (v : TV) : List Value := [.int .i64 v.s, .int .i64 v.e, v.a, v.b, v.c, v.d, .int .i64 v.m]
theorem TV.len (v : TV) : v.enc.length = 7 := rfl
/-- A tag. -/
structure TG where
  s : Int
  e : Int
  x : XE
  c : Int
/-- The values of a tag, in a world. -/
structure IsTag (w : World) (v : TV) (t : TG) : Prop where
  s : v.s = t.s
  e : v.e = t.e
  m : v.m = t.c
  x : XAt w v.a v.b v.c v.d t.x
theorem IsTag.one {w : World} {v : TV} {t : TG} (h : IsTag w v t) : ∀ u ∈ v.enc, u.oneCell' = true := by
  obtain ⟨h1, h2, h3, h4⟩ := h.x.one
  intro u hu
  simp only [TV.enc, List.mem_cons, List.mem_nil_iff, or_false] at hu
  rcases hu with rfl | rfl | rfl | rfl | rfl | rfl | rfl
  · rfl
  · rfl
  · exact h1
  · exact h2
  · exact h3
  · exact h4
  · rfl
theorem IsTag.keep {w w' : World} {v : TV} {t : TG} (h : IsTag w v t) (hk : ∀ (k : Nat) (M : Array Value), w.heap[k]? = some (Obj.cells M 31) → w'.heap[k]? = w.heap[k]?) : IsTag w' v t := ⟨h.s, h.e, h.m, h.x.keep hk⟩

/-- A row of tags of the call's own. -/
structure RowAt (w : World) (B : Nat) (jv : Value) (vs : List TV) (ts : List TG) : Prop where
  row : w.ownsRow B 34 7 jv vs.length (vs.flatMap TV.enc)
  len : vs.length = ts.length
  elt : ∀ j, (h : j < vs.length) → (h' : j < ts.length) → IsTag w vs[j] ts[j]
  nil : vs = [] → jv = .slice none 0 0

theorem flat7_at {ks : List TV} {j : Nat} (h : j < ks.length) (i : Nat) (hi : i < 7) : (ks.flatMap TV.enc)[j * 7 + i]? = (ks[j].enc)[i]? := by
  induction ks generalizing j with
  | nil => simp at h
  | cons k ks ih =>
    rw [List.flatMap_cons]
    cases j with
    | zero =>
      rw [Nat.zero_mul, Nat.zero_add, List.getElem?_append_left (by rw [TV.len]; exact hi)]
      rfl
    | succ j =>
      rw [List.getElem?_append_right (by rw [TV.len]; omega), TV.len, show (j + 1) * 7 + i - 7 = j * 7 + i by omega, ih (by simpa using h)]
      rfl
theorem flat7_len (ks : List TV) : (ks.flatMap TV.enc).length = ks.length * 7 := by
  induction ks with
  | nil => rfl
  | cons k ks ih => rw [List.flatMap_cons, List.length_append, TV.len, ih, List.length_cons]; omega

/-- What the row's cells hold. -/
theorem own7_cell {w : World} {B g cap : Nat} {vs : List TV} (hrow : w.ownsRow B 34 7 (.slice (some ⟨g, 0, none⟩) vs.length cap) vs.length (vs.flatMap TV.enc)) (j : Nat) (hj : j < vs.length) : ∀ i v, (vs[j].enc)[i]? = some v → w.cell? ⟨g, j * 7 + i, none⟩ = some v := fun i v hv => by
  obtain ⟨cur, hg, hBg, hnc, hcm, hcs, htk⟩ := own_blk hrow
  have hi : i < 7 := by have := (List.getElem?_eq_some_iff.1 hv).1; rw [TV.len] at this; exact this
  rw [cell_of_row _ _ _ _ _ _ hg]
  rw [← flat7_at hj i hi, ← htk, List.getElem?_take] at hv
  split at hv
  · simpa using hv
  · cases hv
theorem own7_tag {w : World} {B g cap : Nat} {vs : List TV} (hrow : w.ownsRow B 34 7 (.slice (some ⟨g, 0, none⟩) vs.length cap) vs.length (vs.flatMap TV.enc)) (j : Nat) (hj : j < vs.length) : Tag7 w g j vs[j].s vs[j].e vs[j].a vs[j].b vs[j].c vs[j].d vs[j].m :=
  have h := own7_cell hrow j hj
  ⟨h 0 _ rfl, h 1 _ rfl, h 2 _ rfl, h 3 _ rfl, h 4 _ rfl, h 5 _ rfl, h 6 _ rfl⟩
theorem RowAt.form {w : World} {B : Nat} {jv : Value} {vs : List TV} {ts : List TG} (h : RowAt w B jv vs ts) (h0 : 0 < vs.length) : ∃ g cap, jv = .slice (some ⟨g, 0, none⟩) vs.length cap := Joins.ownsRow_form h.row h0
theorem RowAt.keep {w w' : World} {B : Nat} {jv : Value} {vs : List TV} {ts : List TG} (h : RowAt w B jv vs ts) (hk : ∀ (k : Nat) (M : Array Value) (t : TypeId), t = 31 ∨ t = 34 → w.heap[k]? = some (Obj.cells M t) → w'.heap[k]? = w.heap[k]?) : RowAt w' B jv vs ts := by
  refine ⟨?_, h.len, fun j h1 h2 => (h.elt j h1 h2).keep fun k M hM => hk k M 31 (.inl rfl) hM, h.nil⟩
  have hrow := h.row
  rcases Joins.ownsRow_forms hrow with ⟨h1, h2⟩ | ⟨g, cap, h1⟩
  · rw [h1]
    exact ⟨hrow.1, .inl ⟨rfl, h2⟩⟩
  · rw [h1] at hrow ⊢
    obtain ⟨cur, hg, _⟩ := own_blk hrow
    exact own_keep hrow fun o ho => by rw [hk g cur 34 (.inr rfl) hg]; exact ho
theorem RowAt.moved {w w' : World} {B : Nat} {jv : Value} {vs : List TV} {ts : List TG} (h : RowAt w B jv vs ts) (hm : Moved w w' (fun _ => False)) : RowAt w' B jv vs ts := h.keep fun k M t _ hM => hm.block k (blk_lt hM) (fun h => h)

/-- What the closure says of a tag. -/
def hits (c : Int) (v : TV) : Bool := decide (0 < c) && v.m == c
theorem eg10 : ∀ args w, (callFunc 10 args).run Ybaf.prog w = .ok (.enter 10 args) w := enters_of Ybaf.func10 (by kernel_rfl) rfl
set_option maxHeartbeats 1000000 in
set_option maxRecDepth 100000 in
theorem clo10 (v : TV) (tb : Nat) (c : Int) (W : World) (hc : W.cell? ⟨tb, 6, none⟩ = some (.int .i64 c)) : Calls Ybaf.prog 10 #[.agg v.enc.toArray, .pointer (some ⟨tb, 0, none⟩)] W fun e w' => e = .returned (.bool (hits c v)) ∧ w' = W.alloc (.cells v.enc.toArray 34) := by
  obtain ⟨s, e, x0, x1, x2, x3, m⟩ := v
  unfold hits TV.enc
  have hBW := World.block_lt_of_cell? W _ hc
  have hne : tb ≠ W.heap.size := by show tb ≠ _; have : tb < W.heap.size := hBW; omega
  have hc' : ∀ o, (W.alloc o).cell? ⟨tb, 6, none⟩ = some (.int .i64 c) := fun o => by rw [World.cell?_alloc_lt _ _ _ hBW]; exact hc
  by_cases h0 : 0 < c
  · have hd : decide (0 < c) = true := decide_eq_true h0
    go_enter Ybaf.func10, Ybaf.ntmps10
    go_wp2_with fail
    go_ret
    exact ⟨by simp, rfl⟩
  · have hd : decide (0 < c) = false := decide_eq_false h0
    go_enter Ybaf.func10, Ybaf.ntmps10
    go_wp2_with fail
    go_ret
    exact ⟨by simp, rfl⟩

theorem pred10 (tb : Nat) (c : Int) (w : World) (hc : w.cell? ⟨tb, 6, none⟩ = some (.int .i64 c)) : PredBelow Ybaf.prog 10 #[.pointer (some ⟨tb, 0, none⟩)] (fun v : TV => .agg v.enc.toArray) (hits c) w := fun W v hb => by
  have hB : tb < w.heap.size := World.block_lt_of_cell? w _ hc
  exact (clo10 v tb c W ((hb.cell (p := ⟨tb, 6, none⟩) hB).trans hc)).mono fun e w' ⟨h1, h2⟩ => ⟨h1, by rw [h2]; exact hb.alloc hb.size _⟩
set_option maxRecDepth 100000 in
theorem idx9_nil (f : Value) (w : World) : Calls Ybaf.prog 9 #[.slice none 0 0, f] w fun e w' => e = .returned (.int .i64 (-1)) ∧ w' = w := by
  go_enter Ybaf.func9, Ybaf.ntmps9
  go_wp2_with fail
  go_loopw [8] (fun i x => i = .int .i64 0 ∧ x = w) (fun _ _ => 0)
  case atStart => exact ⟨rfl, rfl⟩
  case round =>
    obtain ⟨rfl, hxw⟩ := hrel
    rw [hxw]
    go_wp2_with fail
    go_ret
    exact ⟨rfl, rfl⟩

theorem idx_spec {α : Type} [Inhabited α] (q : α → Bool) : ∀ (l : List α) (x : α) (i : Nat), (Lib.idxByFrom (fun _ y => q y) x l i = -1 ∧ ∀ j, (h : j < l.length) → q l[j] = false) ∨ ∃ k, ∃ h : k < l.length, Lib.idxByFrom (fun _ y => q y) x l i = ((i + k : Nat) : Int) ∧ q l[k] = true
  | [], x, i => .inl ⟨rfl, fun j h => absurd h (by simp)⟩
  | y :: r, x, i => by
    unfold Lib.idxByFrom
    by_cases hy : q y = true
    · exact .inr ⟨0, by simp, by simp [hy], hy⟩
    · rw [if_neg hy]
      rcases idx_spec q r x (i + 1) with ⟨h1, h2⟩ | ⟨k, hk, h1, h2⟩
      · refine .inl ⟨h1, fun j h => ?_⟩
        cases j with
        | zero => simpa using hy
        | succ j => exact h2 j (by simpa using h)
      · exact .inr ⟨k + 1, by simpa using hk, by rw [h1]; congr 1; omega, h2⟩

/-- IndexFunc over the row. -/
theorem idx9_any (tb B : Nat) (jv : Value) (vs : List TV) (ts : List TG) (c : Int) (w : World) (h : RowAt w B jv vs ts) (hc : w.cell? ⟨tb, 6, none⟩ = some (.int .i64 c)) (hl : vs.length ≤ 10000) :
    Calls Ybaf.prog 9 #[jv, .func (.func 10) #[] #[.pointer (some ⟨tb, 0, none⟩)]] w fun e w' => Hid (∃ r : Int, e = .returned (.int .i64 r) ∧ ((r = -1 ∧ (0 < c → ∀ t ∈ ts, t.c ≠ c)) ∨ ∃ k : Nat, r = (k : Int) ∧ 0 < c ∧ ∃ hk : k < ts.length, ts[k].c = c) ∧ Below w.heap.size w w') := by
  have inh : Inhabited TV := ⟨⟨0, 0, .int .i64 0, .int .i64 0, .int .i64 0, .int .i64 0, 0⟩⟩
  cases hvs : vs with
  | nil =>
    subst hvs
    rw [h.nil rfl]
    have ht : ts = [] := List.length_eq_zero_iff.1 h.len.symm
    subst ht
    exact (idx9_nil _ w).mono fun e w' ⟨h1, h2⟩ => ⟨-1, h1, .inl ⟨rfl, fun _ t ht => by simp at ht⟩, by rw [h2]; exact Below.refl _ _⟩
  | cons v0 vs0 =>
    obtain ⟨g, cap, hav⟩ := h.form (by rw [hvs]; simp)
    have hrow := h.row
    rw [hav] at hrow ⊢
    have hgl : g < w.heap.size := by obtain ⟨cur, hg, _⟩ := own_blk hrow; exact blk_lt hg
    have := AnyQ.slices_IndexFunc Ybaf.idxTag 7 Ybaf.isAgg34 Ybaf.sizeOf34 TV.enc TV.len (hits c) 10 #[.pointer (some ⟨tb, 0, none⟩)] eg10 g 0 vs.length cap vs w (pred10 tb c w hc) (Nat.le_refl _) (by omega) hgl
      (fun j hj i v hv => by
        rw [getElem!_pos vs j hj] at hv
        rw [Nat.zero_add]
        exact own7_cell hrow j hj i v hv)
    rw [List.take_length] at this
    refine this.mono fun e w' ⟨h1, h2⟩ => ⟨_, h1, ?_, h2⟩
    unfold Lib.idxBy
    rcases idx_spec (hits c) vs default 0 with ⟨h3, h4⟩ | ⟨k, hk, h3, h4⟩
    · refine .inl ⟨h3, fun h0 t ht => ?_⟩
      obtain ⟨j, hj, rfl⟩ := List.getElem_of_mem ht
      have hj' : j < vs.length := by rw [h.len]; exact hj
      have := h4 j hj'
      simp only [hits, h0, decide_true, Bool.true_and, beq_eq_false_iff_ne] at this
      rw [← (h.elt j hj' hj).m]
      exact this
    · simp only [hits, Bool.and_eq_true, decide_eq_true_eq, beq_iff_eq] at h4
      have hk' : k < ts.length := by rw [← h.len]; exact hk
      exact .inr ⟨k, by rw [h3]; simp, h4.1, hk', by rw [← (h.elt k hk hk').m]; exact h4.2⟩

/-- The four cells of an expression, laid into a tag of the row. -/
def put4x (W : World) (g i : Nat) (a b c d : Value) : World := (((W.setCell ⟨g, i * 7 + 2, none⟩ a).setCell ⟨g, i * 7 + 3, none⟩ b).setCell ⟨g, i * 7 + 4, none⟩ c).setCell ⟨g, i * 7 + 5, none⟩ d
theorem put4x_moved (W : World) (g i : Nat) (a b c d : Value) : Moved W (put4x W g i a b c d) (fun q => q = g) := by
  have h := fun (X : World) (j : Nat) (v : Value) => Moved.setCell X ⟨g, j, none⟩ v
  exact (((h _ _ _).trans (M' := fun q => q = g) (h _ _ _) (fun _ h => .inl h)).trans (M' := fun q => q = g) (h _ _ _) (fun _ h => .inl h)).trans (M' := fun q => q = g) (h _ _ _) (fun _ h => .inl h)
theorem RowAt.put {w : World} {B g cap : Nat} {vs : List TV} {ts : List TG} (h : RowAt w B (.slice (some ⟨g, 0, none⟩) vs.length cap) vs ts) (i : Nat) (hi : i < vs.length) (hi' : i < ts.length) {a b c d : Value} {y : XE} (hx : XAt w a b c d y) :
    RowAt (put4x w g i a b c d) B (.slice (some ⟨g, 0, none⟩) vs.length cap) (vs.set i ⟨vs[i].s, vs[i].e, a, b, c, d, vs[i].m⟩) (ts.set i ⟨ts[i].s, ts[i].e, y, ts[i].c⟩) := by
  obtain ⟨cur, hg, hBg, hnc, hcm, hcs, htk⟩ := own_blk h.row
  have hb : (put4x w g i a b c d).heap[g]? = some (.cells ((((cur.setIfInBounds (i * 7 + 2) a).setIfInBounds (i * 7 + 3) b).setIfInBounds (i * 7 + 4) c).setIfInBounds (i * 7 + 5) d) 34) := blk_same (blk_same (blk_same (blk_same hg _ _) _ _) _ _) _ _
  have hk : ∀ (k : Nat) (M : Array Value), w.heap[k]? = some (Obj.cells M 31) → (put4x w g i a b c d).heap[k]? = w.heap[k]? := fun k M hM => (put4x_moved w g i a b c d).block k (blk_lt hM) (by rintro rfl; rw [hg] at hM; cases hM)
  refine ⟨?_, by simp [h.len], fun j h1 h2 => ?_, fun hn => ?_⟩
  · have := own_mk (B := B) (size := 7) (n := vs.length) hb hBg hnc hcm (by simp [hcs])
    have hl : ((((cur.setIfInBounds (i * 7 + 2) a).setIfInBounds (i * 7 + 3) b).setIfInBounds (i * 7 + 4) c).setIfInBounds (i * 7 + 5) d).toList.take (vs.length * 7) = (vs.set i ⟨vs[i].s, vs[i].e, a, b, c, d, vs[i].m⟩).flatMap TV.enc := by
      apply List.ext_getElem?
      intro q
      by_cases hq : q < vs.length * 7
      · rw [List.getElem?_take, if_pos hq]
        obtain ⟨j, r, hr, rfl⟩ : ∃ j r, r < 7 ∧ q = j * 7 + r := ⟨q / 7, q % 7, Nat.mod_lt _ (by omega), by omega⟩
        have hj : j < vs.length := by omega
        have hold : cur[j * 7 + r]? = (vs[j].enc)[r]? := by
          rw [← flat7_at hj r hr, ← htk, List.getElem?_take, if_pos hq]; simp
        have hsz : j * 7 + r < cur.size := by rw [hcs]; have := Nat.mul_le_mul_right 7 hnc; omega
        rw [flat7_at (by simpa using hj) r hr, List.getElem_set]
        simp only [Array.getElem?_toList, Array.getElem?_setIfInBounds, Array.size_setIfInBounds]
        by_cases hji : i = j
        · subst hji
          rw [if_pos rfl]
          have hcases : r = 0 ∨ r = 1 ∨ r = 2 ∨ r = 3 ∨ r = 4 ∨ r = 5 ∨ r = 6 := by omega
          rcases hcases with rfl | rfl | rfl | rfl | rfl | rfl | rfl
          · rw [if_neg (by omega), if_neg (by omega), if_neg (by omega), if_neg (by omega), hold]; rfl
          · rw [if_neg (by omega), if_neg (by omega), if_neg (by omega), if_neg (by omega), hold]; rfl
          · rw [if_neg (by omega), if_neg (by omega), if_neg (by omega), if_pos rfl, if_pos hsz]; rfl
          · rw [if_neg (by omega), if_neg (by omega), if_pos rfl, if_pos hsz]; rfl
          · rw [if_neg (by omega), if_pos rfl, if_pos hsz]; rfl
          · rw [if_pos rfl, if_pos hsz]; rfl
          · rw [if_neg (by omega), if_neg (by omega), if_neg (by omega), if_neg (by omega), hold]; rfl
        · rw [if_neg hji, if_neg (by omega), if_neg (by omega), if_neg (by omega), if_neg (by omega), hold]
      · rw [List.getElem?_eq_none (by simp; omega), List.getElem?_eq_none (by rw [flat7_len]; simp; omega)]
    rw [hl] at this
    rw [List.length_set]
    exact this
  · have h1' : j < vs.length := by simpa using h1
    have h2' : j < ts.length := by simpa using h2
    by_cases hji : i = j
    · subst hji
      rw [List.getElem_set_self, List.getElem_set_self]
      have := h.elt i hi hi'
      exact ⟨this.s, this.e, this.m, hx.keep hk⟩
    · rw [List.getElem_set_ne hji, List.getElem_set_ne hji]
      exact (h.elt j h1' h2').keep hk
  · exfalso
    have : (vs.set i ⟨vs[i].s, vs[i].e, a, b, c, d, vs[i].m⟩).length = 0 := by rw [hn]; rfl
    rw [List.length_set] at this
    omega

/-- One more tag. -/
theorem RowAt.push {w w' : World} {B g' cap' : Nat} {jv : Value} {vs : List TV} {ts : List TG} (h : RowAt w B jv vs ts) (v : TV) (t : TG) (hv : IsTag w v t)
    (hown : w'.ownsRow B 34 7 (.slice (some ⟨g', 0, none⟩) (vs.length + 1) cap') (vs.length + 1) (vs.flatMap TV.enc ++ v.enc)) (hk : ∀ (k : Nat) (M : Array Value), w.heap[k]? = some (Obj.cells M 31) → w'.heap[k]? = w.heap[k]?) :
    RowAt w' B (.slice (some ⟨g', 0, none⟩) (vs.length + 1) cap') (vs ++ [v]) (ts ++ [t]) := by
  refine ⟨by simpa using hown, by simp [h.len], fun j h1 h2 => ?_, fun hn => by simp at hn⟩
  simp only [List.length_append, List.length_cons, List.length_nil] at h1 h2
  by_cases hj : j < vs.length
  · rw [List.getElem_append_left hj, List.getElem_append_left (by rw [← h.len]; exact hj)]
    exact (h.elt j hj (by rw [← h.len]; exact hj)).keep hk
  · have e1 : j = vs.length := by omega
    have e2 : j = ts.length := by rw [← h.len]; exact e1
    rw [List.getElem_append_right (by omega), List.getElem_append_right (by omega)]
    simp only [List.getElem_singleton]
    exact hv.keep hk
end Go.Proofs.YbulkexpecFmt
