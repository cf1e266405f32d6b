/- LawS194118BWhole: what the law's own walk wants. -/
import Derived.Test.YbulkexpecFmtWant
import Derived.Test.YbulkexpecFmtBand
namespace Go.Proofs.YbulkexpecFmt
open Go.RowKit Go.PK Go.Shelf Go.RegInv
set_option linter.unusedVariables false
set_option linter.unusedSimpArgs false

/-- A slice as it comes in. -/
def Inn (p : Option Addr) (n cap : Nat) : Prop := p = none → n = 0 ∧ cap = 0
set_option maxRecDepth 100000 in
theorem build_zero (a : Addr) (cap : Nat) (w : World) : Calls Ybaf.prog 4 #[.slice (some a) 0 cap] w fun r w' => Hid (∃ g, r = .returned (.slice (some ⟨g, 0, none⟩) 0 0) ∧ Moved w w' (fun _ => False)) := by
  obtain ⟨M, hMs, hmk0⟩ := Ybaf_make23 0 (by omega)
  have hmk : ∀ W, (Instr.makeSlice 23 (.int .i64 0) (.int .i64 0)).run Ybaf.prog W = .ok (.slice (some ⟨W.heap.size, 0, none⟩) 0 0) (W.alloc (.cells M 34)) := hmk0
  clear hmk0
  have hnil : ∀ W, (binOp .eql 22 (.slice (some a) 0 cap) (.slice none 0 0)).run Ybaf.prog W = .ok (.bool false) W := eql_nil _ _ _
  go_enter Ybaf.func4, Ybaf.ntmps4
  go_wp2_with fail
  clear hmk
  go_loopw [12] (fun i y => i = .int .i64 0 ∧ Moved w y (fun _ => False)) (fun i _ => 0)
  case atStart => exact ⟨rfl, Moved.alloc w _ _⟩
  case round =>
    obtain ⟨rfl, hmv⟩ := hrel
    go_wp2_with fail
    go_ret
    exact ⟨_, rfl, hmv⟩
theorem build_any (p : Option Addr) (n cap : Nat) (T : Nat → IT) (w : World) (hp : Inn p n cap) (hin : InAt w p n T) (hn : n ≤ 4096) :
    Calls Ybaf.prog 4 #[.slice p n cap] w fun r w' => Hid (∃ sp cp, r = .returned (.slice sp n cp) ∧ SrcAt w' sp n T ∧ Moved w w' (fun _ => False)) := by
  cases p with
  | none =>
    obtain ⟨rfl, rfl⟩ := hp rfl
    exact (build_nil w).mono fun r w' ⟨h1, h2⟩ => ⟨none, 0, h1, fun k hk => absurd hk (by omega), by rw [h2]; exact Moved.refl _ _⟩
  | some a =>
    rcases Nat.eq_zero_or_pos n with rfl | h0
    · exact (build_zero a cap w).mono fun r w' h => by
        obtain ⟨g, h1, h2⟩ := h.out
        exact ⟨_, _, h1, fun k hk => absurd hk (by omega), h2⟩
    · obtain ⟨b, o, e1, _⟩ := hin 0 h0
      cases e1
      exact (build_some b o n cap T w hin hn).mono fun r w' h => by
        obtain ⟨g, h1, _, h2, h3⟩ := h.out
        exact ⟨some ⟨g, 0, none⟩, n, h1, fun k hk => ⟨g, rfl, h2.at7 k hk⟩, h3⟩
theorem gr_neg {T : Nat → IT} {k : Nat} (h : ¬ 0 < (T k).c) : ∀ m, gr T m k = [(T k).ex]
  | 0 => gr_start T k (by omega)
  | m + 1 => by
    rw [gr_succ, if_neg (by rintro ⟨_, _, h2⟩; exact h h2)]
    exact gr_neg h m
theorem gr_le (T : Nat → IT) (k : Nat) : ∀ d, (gr T (k + 1 + d) k).length ≤ 1 + d
  | 0 => by rw [gr_start T k (by omega)]; simp
  | d + 1 => by
    have := gr_le T k d
    rw [show k + 1 + (d + 1) = (k + 1 + d) + 1 by omega, gr_succ]
    split <;> simp <;> omega
theorem gr_le' {T : Nat → IT} {k m : Nat} (h : k < m) : (gr T m k).length ≤ m := by
  have := gr_le T k (m - (k + 1))
  rw [show k + 1 + (m - (k + 1)) = m by omega] at this
  omega
theorem gr_pos (T : Nat → IT) (m k : Nat) : 0 < (gr T m k).length := by simp [gr]
theorem kept_neg {T : Nat → IT} {k : Nat} (h : ¬ 0 < (T k).c) : kept T k = true := by simp [kept, h]
theorem kept_pos {T : Nat → IT} {k : Nat} (h : 0 < (T k).c) : kept T k = !seenB T (T k).c k := by simp [kept, h]
theorem gx_one {T : Nat → IT} {m k : Nat} (h : (gr T m k).length = 1) : GX (gr T m k) (.inl (T k).ex) := by
  have : gr T m k = [(T k).ex] := by
    unfold gr at h ⊢
    rw [List.length_cons] at h
    rw [List.length_eq_zero_iff.1 (by omega : (((List.range m).filter fun j => decide (k < j ∧ (T j).c = (T k).c ∧ 0 < (T k).c)).map fun j => (T j).ex).length = 0)]
  rw [this]
  exact .inl ⟨_, rfl, rfl⟩
theorem neq_nil23 (a : Option Addr) (l c : Nat) (W : World) : (binOp .neq 23 (.slice a l c) (.slice none 0 0)).run Ybaf.prog W = .ok (.bool (!a.isNone)) W := by
  cases a <;> rfl
/-- A row of one expression. -/
theorem TRow.one {w : World} {B g : Nat} {e : EX} (h : w.heap[g]? = some (.cells #[.int .i64 0, .string e.1, .string e.2, .slice none 0 0] 31)) (hB : B ≤ g) : TRow w B (.slice (some ⟨g, 0, none⟩) 1 1) [e] := by
  have := own_mk (B := B) (size := 4) (n := 1) (cap := 1) h hB (Nat.le_refl _) (by unfold maxLen; omega) rfl
  exact ⟨this, fun h => by cases h⟩
theorem RowAt.forms {w : World} {B : Nat} {jv : Value} {vs : List TV} {ts : List TG} (h : RowAt w B jv vs ts) : ∃ ga gc, jv = .slice ga vs.length gc ∧ (0 < vs.length → ∃ g, ga = some ⟨g, 0, none⟩) ∧ (vs.length = 0 → ga = none) := by
  rcases Nat.eq_zero_or_pos vs.length with h1 | h1
  · have hnil := h.nil (List.length_eq_zero_iff.1 h1)
    exact ⟨none, 0, by rw [hnil, h1], fun h2 => by omega, fun _ => rfl⟩
  · obtain ⟨g, cap, h2⟩ := h.form h1
    exact ⟨_, cap, h2, fun _ => ⟨g, rfl⟩, fun h3 => by omega⟩
theorem own7_tag' {w : World} {B g cap n : Nat} {vs : List TV} (hrow : w.ownsRow B 34 7 (.slice (some ⟨g, 0, none⟩) n cap) vs.length (vs.flatMap TV.enc)) (hn : n = vs.length) (j : Nat) (hj : j < vs.length) : Tag7 w g j vs[j].s vs[j].e vs[j].a vs[j].b vs[j].c vs[j].d vs[j].m := by
  subst hn
  exact own7_tag hrow j hj
/-- Seven cells laid. -/
def set7 (W : World) (t : Nat) (a0 a1 a2 a3 a4 a5 a6 : Value) : World := ((((((W.setCell ⟨t, 0, none⟩ a0).setCell ⟨t, 1, none⟩ a1).setCell ⟨t, 2, none⟩ a2).setCell ⟨t, 3, none⟩ a3).setCell ⟨t, 4, none⟩ a4).setCell ⟨t, 5, none⟩ a5).setCell ⟨t, 6, none⟩ a6
theorem set7_moved (W : World) (t : Nat) (a0 a1 a2 a3 a4 a5 a6 : Value) : Moved W (set7 W t a0 a1 a2 a3 a4 a5 a6) (fun q => q = t) := by
  have h := fun (X : World) (j : Nat) (v : Value) => Moved.setCell X ⟨t, j, none⟩ v
  exact ((((((h _ _ _).trans (M' := fun q => q = t) (h _ _ _) (fun _ h => .inl h)).trans (M' := fun q => q = t) (h _ _ _) (fun _ h => .inl h)).trans (M' := fun q => q = t) (h _ _ _) (fun _ h => .inl h)).trans (M' := fun q => q = t) (h _ _ _) (fun _ h => .inl h)).trans (M' := fun q => q = t) (h _ _ _) (fun _ h => .inl h)).trans (M' := fun q => q = t) (h _ _ _) (fun _ h => .inl h)
theorem set7_blk {W : World} {t : Nat} {z0 z1 z2 z3 z4 z5 z6 : Value} (h : W.heap[t]? = some (.cells #[z0, z1, z2, z3, z4, z5, z6] 34)) (a0 a1 a2 a3 a4 a5 a6 : Value) : (set7 W t a0 a1 a2 a3 a4 a5 a6).heap[t]? = some (.cells #[a0, a1, a2, a3, a4, a5, a6] 34) := by
  have h' := blk_same (blk_same (blk_same (blk_same (blk_same (blk_same (blk_same h 0 a0) 1 a1) 2 a2) 3 a3) 4 a4) 5 a5) 6 a6
  simp only [List.setIfInBounds_toArray, List.set_cons_zero, List.set_cons_succ] at h'
  exact h'
/-- Four cells laid into a tag. -/
def set4 (W : World) (t : Nat) (a b c d : Value) : World := (((W.setCell ⟨t, 2, none⟩ a).setCell ⟨t, 3, none⟩ b).setCell ⟨t, 4, none⟩ c).setCell ⟨t, 5, none⟩ d
theorem set4_moved (W : World) (t : Nat) (a b c d : Value) : Moved W (set4 W t a b c d) (fun q => q = t) := by
  have h := fun (X : World) (j : Nat) (v : Value) => Moved.setCell X ⟨t, j, none⟩ v
  exact (((h _ _ _).trans (M' := fun q => q = t) (h _ _ _) (fun _ h => .inl h)).trans (M' := fun q => q = t) (h _ _ _) (fun _ h => .inl h)).trans (M' := fun q => q = t) (h _ _ _) (fun _ h => .inl h)
theorem set4_blk {W : World} {t : Nat} {z0 z1 z2 z3 z4 z5 z6 : Value} (h : W.heap[t]? = some (.cells #[z0, z1, z2, z3, z4, z5, z6] 34)) (a b c d : Value) : (set4 W t a b c d).heap[t]? = some (.cells #[z0, z1, a, b, c, d, z6] 34) := by
  have h' := blk_same (blk_same (blk_same (blk_same h 2 a) 3 b) 4 c) 5 d
  simp only [List.setIfInBounds_toArray, List.set_cons_zero, List.set_cons_succ] at h'
  exact h'
theorem cells7 {W : World} {t : Nat} {z0 z1 z2 z3 z4 z5 z6 : Value} (h : W.heap[t]? = some (.cells #[z0, z1, z2, z3, z4, z5, z6] 34)) : W.cell? ⟨t, 0, none⟩ = some z0 ∧ W.cell? ⟨t, 1, none⟩ = some z1 ∧ W.cell? ⟨t, 2, none⟩ = some z2 ∧ W.cell? ⟨t, 3, none⟩ = some z3 ∧ W.cell? ⟨t, 4, none⟩ = some z4 ∧ W.cell? ⟨t, 5, none⟩ = some z5 ∧ W.cell? ⟨t, 6, none⟩ = some z6 := by
  refine ⟨?_, ?_, ?_, ?_, ?_, ?_, ?_⟩ <;> (rw [cell_of_row _ _ _ _ _ _ h]; rfl)
end Go.Proofs.YbulkexpecFmt
