/- LawS194118BWhole: spdx.Join's closure add (16). -/
import Derived.Test.YbulkexpecFmtCmp
import Derived.Test.YbulkexpecFmtLays
namespace Go.Proofs.YbulkexpecFmt
open Go.RowKit Go.PK Go.Shelf
set_option linter.unusedVariables false

abbrev KE := ByteArray × ByteArray × Nat
abbrev KE.i (k : KE) : ByteArray := k.1
abbrev KE.x (k : KE) : ByteArray := k.2.1
abbrev KE.g (k : KE) : Nat := k.2.2
def KE.enc (k : KE) : List Value := [.int .i64 0, .string k.i, .string k.x, .slice none 0 0, .slice (some ⟨k.g, 0, none⟩) 1 1, .string (textOf k.i k.x)]
theorem KE.len (k : KE) : k.enc.length = 6 := rfl
theorem KE.one (k : KE) : ∀ v ∈ k.enc, v.oneCell' = true := by
  intro v hv
  simp only [KE.enc, List.mem_cons, List.mem_nil_iff, or_false] at hv
  rcases hv with rfl | rfl | rfl | rfl | rfl | rfl <;> rfl

structure AllAt (w : World) (ab B : Nat) (av : Value) (ks : List KE) : Prop where
  blk : w.heap[ab]? = some (.cells #[av] 43)
  lo : B ≤ ab
  row : w.ownsRow B 49 6 av ks.length (ks.flatMap KE.enc)
  ids : ∀ k ∈ ks, w.cell? ⟨k.g, 0, none⟩ = some (.string k.i) ∧ B ≤ k.g ∧ av.ownBlock ≠ some k.g ∧ k.g ≠ ab
  nil : ks = [] → av = .slice none 0 0

theorem flat_at {ks : List KE} {j : Nat} (h : j < ks.length) (i : Nat) (hi : i < 6) : (ks.flatMap KE.enc)[j * 6 + i]? = (ks[j].enc)[i]? := by
  induction ks generalizing j with
  | nil => simp at h
  | cons k ks ih =>
    rw [List.flatMap_cons]
    cases j with
    | zero =>
      rw [Nat.zero_mul, Nat.zero_add, List.getElem?_append_left (by rw [KE.len]; exact hi)]
      rfl
    | succ j =>
      rw [List.getElem?_append_right (by rw [KE.len]; omega), KE.len, show (j + 1) * 6 + i - 6 = j * 6 + i by omega, ih (by simpa using h)]
      rfl

/-- What the row's cells hold. -/
theorem AllAt.cell {w : World} {ab B : Nat} {av : Value} {ks : List KE} (h : AllAt w ab B av ks) (h0 : ks ≠ []) : ∃ g cap, av = .slice (some ⟨g, 0, none⟩) ks.length cap ∧ B ≤ g ∧ g < w.heap.size ∧ g ≠ ab ∧ ∀ j, (hj : j < ks.length) → ∀ i v, (ks[j].enc)[i]? = some v → w.cell? ⟨g, 0 + j * 6 + i, none⟩ = some v := by
  have hne : 0 < ks.length := by cases ks with | nil => exact absurd rfl h0 | cons k ks => simp
  have hrow := h.row
  obtain ⟨g, cap, hav⟩ := Joins.ownsRow_form hrow hne
  subst hav
  obtain ⟨cur, hg, hBg, hnc, hcm, hcs, htk⟩ := own_blk hrow
  refine ⟨g, cap, rfl, hBg, blk_lt hg, (ne_of_type h.blk hg (by decide)).symm, fun j hj i v hv => ?_⟩
  have hi : i < 6 := by have := (List.getElem?_eq_some_iff.1 hv).1; rw [KE.len] at this; exact this
  rw [cell_of_row _ _ _ _ _ _ hg, Nat.zero_add]
  rw [← flat_at hj i hi, ← htk, List.getElem?_take] at hv
  split at hv
  · simpa using hv
  · cases hv

theorem AllAt.keep {w w' : World} {ab B : Nat} {av : Value} {ks : List KE} (h : AllAt w ab B av ks) (hk : ∀ b, b < w.heap.size → w'.heap[b]? = w.heap[b]?) : AllAt w' ab B av ks := by
  refine ⟨by rw [hk _ (blk_lt h.blk)]; exact h.blk, h.lo, ?_, fun k hkm => ?_, h.nil⟩
  · have hrow := h.row
    rcases Joins.ownsRow_forms hrow with ⟨h1, h2⟩ | ⟨g, cap, h1⟩
    · rw [h1]
      exact ⟨hrow.1, .inl ⟨rfl, h2⟩⟩
    · rw [h1] at hrow ⊢
      exact own_keep hrow fun o ho => by rw [hk _ (blk_lt ho)]; exact ho
  · obtain ⟨h1, h2⟩ := h.ids k hkm
    exact ⟨by rw [World.cell?_of_block (w := w) (hk _ (World.block_lt_of_cell? w _ h1))]; exact h1, h2⟩
theorem AllAt.below {w w' : World} {ab B : Nat} {av : Value} {ks : List KE} (h : AllAt w ab B av ks) (hb : Below w.heap.size w w') : AllAt w' ab B av ks := h.keep fun b hb' => hb.block b hb'

theorem eg19 : ∀ args w, (callFunc 19 args).run Ybaf.prog w = .ok (.enter 19 args) w := enters_of Ybaf.func19 (by kernel_rfl) rfl
theorem pred19 (t : ByteArray) (tb : Nat) (w : World) (hc : w.cell? ⟨tb, 0, none⟩ = some (.string t)) :
    PredBelow Ybaf.prog 19 #[.pointer (some ⟨tb, 0, none⟩)] (fun k : KE => .agg k.enc.toArray) (fun k => (textOf k.i k.x).toList == t.toList) w := fun W k hb => by
  have hB := World.block_lt_of_cell? w _ hc
  have hc' : W.cell? ⟨tb, 0, none⟩ = some (.string t) := (hb.cell (p := ⟨tb, 0, none⟩) hB).trans hc
  have hBW : tb < W.heap.size := Nat.lt_of_lt_of_le hB hb.size
  have hne : tb ≠ W.heap.size := by omega
  show Calls Ybaf.prog 19 #[.agg #[.int .i64 0, .string k.i, .string k.x, .slice none 0 0, .slice (some ⟨k.g, 0, none⟩) 1 1, .string (textOf k.i k.x)], .pointer (some ⟨tb, 0, none⟩)] W _
  go_enter Ybaf.func19, Ybaf.ntmps19
  go_wp2
  all_goals (go_ret; exact ⟨rfl, hb.alloc hb.size _⟩)
set_option maxRecDepth 100000 in
theorem idx29_nil (f : Value) (w : World) : Calls Ybaf.prog 29 #[.slice none 0 0, f] w fun e w' => e = .returned (.int .i64 (-1)) ∧ w' = w := by
  go_enter Ybaf.func29, Ybaf.ntmps29
  go_wp2_with fail
  go_loopw [8] (fun i x => i = .int .i64 0 ∧ x = w) (fun _ _ => 0)
  case atStart => exact ⟨rfl, rfl⟩
  case round =>
    obtain ⟨rfl, hxw⟩ := hrel
    rw [hxw]
    go_wp2_with fail
    go_ret
    exact ⟨rfl, rfl⟩
theorem con18_nil (f : Value) (w : World) : Calls Ybaf.prog 18 #[.slice none 0 0, f] w fun e w' => e = .returned (.bool false) ∧ w' = w := by
  go_enter Ybaf.func18, Ybaf.ntmps18
  go_wp2_with (go_at_call 29; refine (idx29_nil _ _).mono ?_; rintro e w' ⟨rfl, rfl⟩)
  go_ret
  exact ⟨rfl, rfl⟩
/-- ContainsFunc over what is there. -/
theorem con18_any (ab B : Nat) (av : Value) (ks : List KE) (t : ByteArray) (tb : Nat) (w : World) (h : AllAt w ab B av ks) (hc : w.cell? ⟨tb, 0, none⟩ = some (.string t)) (hl : ks.length ≤ 10000) :
    Calls Ybaf.prog 18 #[av, .func (.func 19) #[] #[.pointer (some ⟨tb, 0, none⟩)]] w fun e w' => e = .returned (.bool (ks.any fun k => (textOf k.i k.x).toList == t.toList)) ∧ Below w.heap.size w w' := by
  cases hks : ks with
  | nil =>
    subst hks
    rw [h.nil rfl]
    exact (con18_nil _ w).mono fun e w' ⟨h1, h2⟩ => ⟨h1, by rw [h2]; exact Below.refl _ _⟩
  | cons k0 ks0 =>
    rw [← hks]
    obtain ⟨g, cap, hav, hBg, hgl, _, hcell⟩ := h.cell (by rw [hks]; simp)
    rw [hav]
    have := AnyQ.slices_ContainsFunc Ybaf.conK 6 Ybaf.isAgg49 Ybaf.sizeOf49 KE.enc KE.len (fun k => (textOf k.i k.x).toList == t.toList) 19 #[.pointer (some ⟨tb, 0, none⟩)] eg19 g 0 ks.length cap ks w (pred19 t tb w hc) (Nat.le_refl _) (by omega) hgl
      (fun j hj i v hv => by
        rw [getElem!_pos ks j hj] at hv
        exact hcell j hj i v hv)
    rw [List.take_length] at this
    exact this
end Go.Proofs.YbulkexpecFmt
