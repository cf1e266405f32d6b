/- LawS194118BWhole: plain laws on the order of simple expressions. -/
import Derived.Test.YbulkexpecFmtBeq
namespace Go.Proofs.YbulkexpecFmt
open Go.RowKit Go.PK Go.Shelf Go.Sort
set_option linter.unusedVariables false
set_option linter.unusedSimpArgs false

theorem swoEX : SWO ltE := swoE (fun e : EX => e.1) (fun e : EX => textOf e.1 e.2)
theorem ltE_iff (p q : EX) : ltE p q = true ↔ lexlt p.1.data.toList (textOf p.1 p.2).data.toList q.1.data.toList (textOf q.1 q.2).data.toList := by
  unfold ltE
  rw [decide_eq_true_iff, cfK_neg]
theorem ltE_asymm {p q : EX} (h : ltE p q = true) : ltE q p = false := by
  cases h2 : ltE q p with
  | false => rfl
  | true =>
    have := swoEX.trans p q p h h2
    rw [swoEX.irrefl] at this
    cases this
theorem ltE_total {p q : EX} (h1 : ltE p q = false) (h2 : ltE q p = false) : textOf p.1 p.2 = textOf q.1 q.2 := by
  rcases lex_tri p.1.data.toList (textOf p.1 p.2).data.toList q.1.data.toList (textOf q.1 q.2).data.toList with h | ⟨_, h⟩ | h
  · rw [← ltE_iff] at h; rw [h] at h1; cases h1
  · exact ByteArray.ext (by simpa using h)
  · rw [← ltE_iff] at h; rw [h] at h2; cases h2
theorem bless_eq (p q : EX) : bless p.1 p.2 q.1 q.2 = ltE p q := by
  rw [Bool.eq_iff_iff, ltE_iff]
  unfold bless lexlt
  have e : p.1.data.toList = q.1.data.toList ↔ p.1 = q.1 := ⟨fun h => ByteArray.ext (by simpa using h), fun h => by rw [h]⟩
  split
  · rename_i h
    rw [bytesLess_eq, Lib.toList_data, Lib.toList_data, h]
    simp [List.lt_irrefl]
  · rename_i h
    rw [bytesLess_eq, Lib.toList_data, Lib.toList_data, e]
    simp [h]

/-- No later one is less than an earlier one. -/
def Srt (l : List EX) : Prop := l.Pairwise fun p q => ltE q p = false
/-- The place at which an insertion from behind comes to rest. -/
theorem srt_insert {A B : List EX} {e : EX} (h : Srt (A ++ B)) (hB : ∀ x ∈ B, ltE e x = true) (hA : ∀ A' x, A = A' ++ [x] → ltE e x = false) : Srt (A ++ e :: B) := by
  unfold Srt at *
  rw [List.pairwise_append] at h ⊢
  obtain ⟨h1, h2, h3⟩ := h
  refine ⟨h1, List.pairwise_cons.2 ⟨fun x hx => ltE_asymm (hB x hx), h2⟩, fun a ha b hb => ?_⟩
  rcases List.mem_cons.1 hb with rfl | hb
  · rcases List.eq_nil_or_concat A with rfl | ⟨A', x, hAx⟩
    · simp at ha
    · rw [List.concat_eq_append] at hAx
      have hx := hA A' x hAx
      subst hAx
      rcases List.mem_append.1 ha with ha | ha
      · rw [List.pairwise_append] at h1
        exact swoEX.ntrans _ _ _ hx (h1.2.2 a ha x (by simp))
      · rw [List.mem_singleton.1 ha]; exact hx
  · exact h3 a ha b hb

def dupT (l : List EX) (e : EX) : Bool := l.any fun k => (textOf k.1 k.2).toList == (textOf e.1 e.2).toList
theorem any_perm {l l' : List EX} (h : l.Perm l') (p : EX → Bool) : l.any p = l'.any p := by
  rw [Bool.eq_iff_iff, List.any_eq_true, List.any_eq_true]
  exact ⟨fun ⟨x, hx, hp⟩ => ⟨x, h.mem_iff.1 hx, hp⟩, fun ⟨x, hx, hp⟩ => ⟨x, h.mem_iff.2 hx, hp⟩⟩
theorem addL_perm {l l' : List EX} (h : l.Perm l') (e : EX) : (addL l e).Perm (addL l' e) := by
  unfold addL
  rw [any_perm h]
  split
  · exact h
  · split
    · exact h
    · exact h.append_right _

/-- One sorted list of those texts. -/
theorem srt_unique : ∀ {l l' : List EX}, l.Perm l' → Srt l → Srt l' → (∀ x ∈ l, ∀ y ∈ l, textOf x.1 x.2 = textOf y.1 y.2 → x = y) → l = l'
  | [], l', h, _, _, _ => (List.nil_perm.1 h).symm ▸ rfl
  | a :: l, [], h, _, _, _ => absurd h.length_eq (by simp)
  | a :: l, b :: l', h, h1, h2, ht => by
    have hab : a = b := by
      have ha : a ∈ b :: l' := h.mem_iff.1 (by simp)
      have hb : b ∈ a :: l := h.mem_iff.2 (by simp)
      rcases List.mem_cons.1 ha with e | ha
      · exact e
      · rcases List.mem_cons.1 hb with e | hb
        · exact e.symm
        · exact ht a (by simp) b (by simp [hb]) (ltE_total ((List.pairwise_cons.1 h2).1 a ha) ((List.pairwise_cons.1 h1).1 b hb))
    subst hab
    rw [srt_unique ((List.perm_cons a).1 h) (List.pairwise_cons.1 h1).2 (List.pairwise_cons.1 h2).2 fun x hx y hy => ht x (by simp [hx]) y (by simp [hy])]
end Go.Proofs.YbulkexpecFmt
