/- LawS194118BWhole: a row of simple expressions of the call's own. -/
import Derived.Test.YbulkexpecFmtPlain
namespace Go.Proofs.YbulkexpecFmt
open Go.RowKit Go.PK Go.Shelf Go.RegInv
set_option linter.unusedVariables false
set_option linter.unusedSimpArgs false

def enc4 (e : EX) : List Value := [.int .i64 0, .string e.1, .string e.2, .slice none 0 0]
theorem enc4_len (e : EX) : (enc4 e).length = 4 := rfl
theorem enc4_one (e : EX) : ∀ u ∈ enc4 e, u.oneCell' = true := by
  intro u hu
  simp only [enc4, List.mem_cons, List.mem_nil_iff, or_false] at hu
  rcases hu with rfl | rfl | rfl | rfl <;> rfl
structure TRow (w : World) (B : Nat) (tv : Value) (l : List EX) : Prop where
  row : w.ownsRow B 31 4 tv l.length (l.flatMap enc4)
  nil : l = [] → tv = .slice none 0 0

theorem flat4_at {ks : List EX} {j : Nat} (h : j < ks.length) (i : Nat) (hi : i < 4) : (ks.flatMap enc4)[j * 4 + i]? = (enc4 ks[j])[i]? := by
  induction ks generalizing j with
  | nil => simp at h
  | cons k ks ih =>
    rw [List.flatMap_cons]
    cases j with
    | zero =>
      rw [Nat.zero_mul, Nat.zero_add, List.getElem?_append_left (by rw [enc4_len]; exact hi)]
      rfl
    | succ j =>
      rw [List.getElem?_append_right (by rw [enc4_len]; omega), enc4_len, show (j + 1) * 4 + i - 4 = j * 4 + i by omega, ih (by simpa using h)]
      rfl
theorem flat4_len (ks : List EX) : (ks.flatMap enc4).length = ks.length * 4 := by
  induction ks with
  | nil => rfl
  | cons k ks ih => rw [List.flatMap_cons, List.length_append, enc4_len, ih, List.length_cons]; omega
theorem own4_terms {w : World} {B g cap n : Nat} {l : List EX} (hn : n = l.length) (hrow : w.ownsRow B 31 4 (.slice (some ⟨g, 0, none⟩) n cap) n (l.flatMap enc4)) : TermsAt w g l := fun j hj => by
  subst hn
  obtain ⟨cur, hg, hBg, hnc, hcm, hcs, htk⟩ := own_blk hrow
  have h : ∀ i v, (enc4 l[j])[i]? = some v → w.cell? ⟨g, j * 4 + i, none⟩ = some v := fun i v hv => by
    have hi : i < 4 := by have := (List.getElem?_eq_some_iff.1 hv).1; rw [enc4_len] at this; exact this
    rw [cell_of_row _ _ _ _ _ _ hg]
    rw [← flat4_at hj i hi, ← htk, List.getElem?_take] at hv
    split at hv
    · simpa using hv
    · cases hv
  exact ⟨h 0 _ rfl, h 1 _ rfl, h 2 _ rfl, h 3 _ rfl⟩
theorem TRow.form {w : World} {B : Nat} {tv : Value} {l : List EX} (h : TRow w B tv l) (h0 : 0 < l.length) : ∃ g cap, tv = .slice (some ⟨g, 0, none⟩) l.length cap := Joins.ownsRow_form h.row h0
theorem TRow.keep {w w' : World} {B : Nat} {tv : Value} {l : List EX} (h : TRow w B tv l) (hk : ∀ k, B ≤ k → k < w.heap.size → w'.heap[k]? = w.heap[k]?) : TRow w' B tv l := by
  refine ⟨?_, h.nil⟩
  have hrow := h.row
  rcases Joins.ownsRow_forms hrow with ⟨h1, h2⟩ | ⟨g, cap, h1⟩
  · rw [h1]
    exact ⟨hrow.1, .inl ⟨rfl, h2⟩⟩
  · rw [h1] at hrow ⊢
    obtain ⟨cur, hg, hB, _⟩ := own_blk hrow
    exact own_keep hrow fun o ho => by rw [hk g hB (blk_lt hg)]; exact ho
theorem TRow.moved {w w' : World} {B : Nat} {tv : Value} {l : List EX} (h : TRow w B tv l) (hm : Moved w w' (fun _ => False)) : TRow w' B tv l := h.keep fun k _ hk => hm.block k hk (fun h => h)

/-- Four cells laid over an expression of the row. -/
def putE (W : World) (g i : Nat) (e : EX) : World := (((W.setCell ⟨g, i * 4, none⟩ (.int .i64 0)).setCell ⟨g, i * 4 + 1, none⟩ (.string e.1)).setCell ⟨g, i * 4 + 2, none⟩ (.string e.2)).setCell ⟨g, i * 4 + 3, none⟩ (.slice none 0 0)
theorem putE_moved (W : World) (g i : Nat) (e : EX) : Moved W (putE W g i e) (fun q => q = g) := by
  have h := fun (X : World) (j : Nat) (v : Value) => Moved.setCell X ⟨g, j, none⟩ v
  exact (((h _ _ _).trans (M' := fun q => q = g) (h _ _ _) (fun _ h => .inl h)).trans (M' := fun q => q = g) (h _ _ _) (fun _ h => .inl h)).trans (M' := fun q => q = g) (h _ _ _) (fun _ h => .inl h)
theorem TRow.put {w : World} {B g cap n : Nat} {l : List EX} (h : TRow w B (.slice (some ⟨g, 0, none⟩) n cap) l) (hn : n = l.length) (i : Nat) (hi : i < l.length) (e : EX) :
    TRow (putE w g i e) B (.slice (some ⟨g, 0, none⟩) n cap) (l.set i e) := by
  subst hn
  obtain ⟨cur, hg, hBg, hnc, hcm, hcs, htk⟩ := own_blk h.row
  have hb : (putE w g i e).heap[g]? = some (.cells ((((cur.setIfInBounds (i * 4) (.int .i64 0)).setIfInBounds (i * 4 + 1) (.string e.1)).setIfInBounds (i * 4 + 2) (.string e.2)).setIfInBounds (i * 4 + 3) (.slice none 0 0)) 31) := blk_same (blk_same (blk_same (blk_same hg _ _) _ _) _ _) _ _
  refine ⟨?_, fun hnil => ?_⟩
  · have := own_mk (B := B) (size := 4) (n := l.length) hb hBg hnc hcm (by simp [hcs])
    have hl : ((((cur.setIfInBounds (i * 4) (.int .i64 0)).setIfInBounds (i * 4 + 1) (.string e.1)).setIfInBounds (i * 4 + 2) (.string e.2)).setIfInBounds (i * 4 + 3) (.slice none 0 0)).toList.take (l.length * 4) = (l.set i e).flatMap enc4 := by
      apply List.ext_getElem?
      intro q
      by_cases hq : q < l.length * 4
      · rw [List.getElem?_take, if_pos hq]
        obtain ⟨j, r, hr, rfl⟩ : ∃ j r, r < 4 ∧ q = j * 4 + r := ⟨q / 4, q % 4, Nat.mod_lt _ (by omega), by omega⟩
        have hj : j < l.length := by omega
        have hold : cur[j * 4 + r]? = (enc4 l[j])[r]? := by
          rw [← flat4_at hj r hr, ← htk, List.getElem?_take, if_pos hq]; simp
        have hsz : j * 4 + r < cur.size := by rw [hcs]; have := Nat.mul_le_mul_right 4 hnc; omega
        rw [flat4_at (by simpa using hj) r hr, List.getElem_set]
        simp only [Array.getElem?_toList, Array.getElem?_setIfInBounds, Array.size_setIfInBounds]
        by_cases hji : i = j
        · subst hji
          rw [if_pos rfl]
          have hcases : r = 0 ∨ r = 1 ∨ r = 2 ∨ r = 3 := by omega
          rcases hcases with rfl | rfl | rfl | rfl
          · rw [if_neg (by omega), if_neg (by omega), if_neg (by omega), if_pos (by omega), if_pos (by omega)]; rfl
          · rw [if_neg (by omega), if_neg (by omega), if_pos rfl, if_pos hsz]; rfl
          · rw [if_neg (by omega), if_pos rfl, if_pos hsz]; rfl
          · rw [if_pos rfl, if_pos hsz]; rfl
        · rw [if_neg hji, if_neg (by omega), if_neg (by omega), if_neg (by omega), if_neg (by omega), hold]
      · rw [List.getElem?_eq_none (by simp; omega), List.getElem?_eq_none (by rw [flat4_len]; simp; omega)]
    rw [hl] at this
    rw [List.length_set]
    exact this
  · exfalso
    have : (l.set i e).length = 0 := by rw [hnil]; rfl
    rw [List.length_set] at this
    omega
theorem TRow.push {w' : World} {B g' cap' : Nat} {l : List EX} {e : EX} (hown : w'.ownsRow B 31 4 (.slice (some ⟨g', 0, none⟩) (l.length + 1) cap') (l.length + 1) (l.flatMap enc4 ++ enc4 e)) : TRow w' B (.slice (some ⟨g', 0, none⟩) (l.length + 1) cap') (l ++ [e]) :=
  ⟨by simpa using hown, fun hn => by simp at hn⟩
/-- What an append leaves. -/
theorem TRow.grown {w w' : World} {B : Nat} {tv : Value} {l : List EX} (h : TRow w B tv l) (hgrow : w.grownBy w' tv.ownBlock) {V : World} (hm : Moved V w (fun _ => False)) (hB : V.heap.size ≤ B) : Moved V w' (fun _ => False) := hm.trans (Moved.of_grown hgrow) (fun b hb => .inr (by
  rcases Joins.ownsRow_forms h.row with ⟨h1, _⟩ | ⟨g, cap, h1⟩
  · rw [h1] at hb; simp [Value.ownBlock] at hb
  · have hrow := h.row
    rw [h1] at hrow hb
    obtain ⟨cur, hg, hBg, _⟩ := own_blk hrow
    simp [Value.ownBlock] at hb
    omega))
end Go.Proofs.YbulkexpecFmt
