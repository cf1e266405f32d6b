/- LawS194114CWhole: the plain laws on lists of pairs. No word of the program. -/
import Derived.Test.YbulkexpbySetAll
namespace Go.Proofs.Ybulkexpby
open Go.RowKit Go.PK Go.SM
set_option linter.unusedVariables false

/-- The cells of a row of two-cell values. -/
def flat : AL → List Value
  | [] => []
  | p :: A => (match p.2 with | .agg cs => cs.toList | _ => []) ++ flat A

theorem flat_append (A B : AL) : flat (A ++ B) = flat A ++ flat B := by
  induction A with
  | nil => rfl
  | cons p A ih => simp [flat, ih]

theorem flat_len {A : AL} (h : Svs A) : (flat A).length = A.length * 2 := by
  induction A with
  | nil => rfl
  | cons p A ih =>
    obtain ⟨nb, af, e⟩ := h p (.head _)
    have := ih fun q hq => h q (.tail _ hq)
    simp [flat, e, svOf, this]
    omega

theorem flat_get : ∀ {A : AL} (h : Svs A) {i nb : Nat} {k : ByteArray} {af : Int}, A[i]? = some (k, svOf nb af) → (flat A)[i * 2]? = some (ptr nb) ∧ (flat A)[i * 2 + 1]? = some (.int .i64 af)
  | [], _, _, _, _, _, hi => by simp at hi
  | p :: A, h, i, nb, k, af, hi => by
    obtain ⟨nb0, af0, e⟩ := h p (.head _)
    cases i with
    | zero =>
      simp at hi
      rw [hi] at e
      simp only [svOf, Value.agg.injEq] at e
      cases e
      simp [flat, hi, svOf, ptr]
    | succ i =>
      have := flat_get (A := A) (fun q hq => h q (.tail _ hq)) (i := i) (nb := nb) (k := k) (af := af) (by simpa using hi)
      simp only [flat, e, svOf]
      rw [show (i + 1) * 2 = i * 2 + 2 by omega, show i * 2 + 2 + 1 = i * 2 + 1 + 2 by omega]
      simpa using this

theorem flat_set : ∀ {A : AL} (h : Svs A) {j nb : Nat} {k : ByteArray} {af : Int}, j < A.length → flat (A.set j (k, svOf nb af)) = ((flat A).set (j * 2) (ptr nb)).set (j * 2 + 1) (.int .i64 af)
  | [], _, _, _, _, _, hi => by simp at hi
  | p :: A, h, j, nb, k, af, hi => by
    obtain ⟨nb0, af0, e⟩ := h p (.head _)
    cases j with
    | zero => simp [flat, e, svOf, ptr]
    | succ j =>
      have := flat_set (A := A) (fun q hq => h q (.tail _ hq)) (j := j) (nb := nb) (k := k) (af := af) (by simpa using hi)
      simp only [List.set_cons_succ, flat, e, svOf] at this ⊢
      rw [this, show (j + 1) * 2 = j * 2 + 2 by omega, show j * 2 + 2 + 1 = j * 2 + 1 + 2 by omega]
      simp

def keyAt (A : AL) (i : Nat) : ByteArray := (A.getD i (ByteArray.empty, .bool false)).1
theorem keyAt_get {A : AL} {i : Nat} (h : i < A.length) : (A.map keyV)[i]? = some (.string (keyAt A i)) := by
  simp [keyAt, keyV, h]
theorem get_keyAt {A : AL} {i : Nat} {k : ByteArray} {v : Value} (h : A[i]? = some (k, v)) : keyAt A i = k := by simp [keyAt, h]

/-- The first index, in the list's words. -/
theorem idx_hit {A : AL} {k : ByteArray} {j : Nat} (hj : j < A.length) (h : keyAt A j = k) (hf : ∀ i, i < j → keyAt A i ≠ k) : ∃ v, SM.fidx A k = some (j, v) ∧ A[j]? = some (k, v) := by
  induction A generalizing j with
  | nil => simp at hj
  | cons p A ih =>
    cases j with
    | zero =>
      have e : p.1 = k := by simpa [keyAt] using h
      exact ⟨p.2, by simp [SM.fidx, e], by simp [← e]⟩
    | succ j =>
      have ne : p.1 ≠ k := by have := hf 0 (by omega); simpa [keyAt] using this
      obtain ⟨v, h1, h2⟩ := ih (j := j) (by simpa using hj) (by simpa [keyAt] using h) (fun i hi => by have := hf (i + 1) (by omega); simpa [keyAt] using this)
      exact ⟨v, by simp [SM.fidx, ne, h1], by simpa using h2⟩
theorem idx_miss {A : AL} {k : ByteArray} (hf : ∀ i, i < A.length → keyAt A i ≠ k) : SM.fidx A k = none := by
  induction A with
  | nil => rfl
  | cons p A ih =>
    have ne : p.1 ≠ k := by have := hf 0 (by simp); simpa [keyAt] using this
    have := ih (fun i hi => by have := hf (i + 1) (by simpa using hi); simpa [keyAt] using this)
    simp [SM.fidx, ne, this]
theorem look_hit {A : AL} {k : ByteArray} {j : Nat} {v : Value} (h : SM.fidx A k = some (j, v)) : SM.look A k = some v := by rw [SM.look_fidx, h]; rfl
theorem look_miss {A : AL} {k : ByteArray} (h : SM.fidx A k = none) : SM.look A k = none := by rw [SM.look_fidx, h]; rfl
theorem look_at {A : AL} {i : Nat} (h : i < A.length) : ∃ v, SM.look A (keyAt A i) = some v := by
  cases hl : SM.look A (keyAt A i) with
  | some v => exact ⟨v, rfl⟩
  | none =>
    exfalso
    induction A generalizing i with
    | nil => simp at h
    | cons p A ih =>
      by_cases e : p.1 = keyAt (p :: A) i
      · simp [SM.look, ← e] at hl
      · simp only [SM.look, if_neg e] at hl
        cases i with
        | zero => exact e (by simp [keyAt])
        | succ i => exact ih (i := i) (by simpa using h) (by simpa [keyAt] using hl)

theorem look_put (A : AL) (k x : ByteArray) (v : Value) : SM.look (put A k v) x = if k = x then some v else SM.look A x := by
  induction A with
  | nil => simp [put, SM.look]
  | cons p A ih =>
    by_cases e : p.1 = k
    · by_cases e2 : k = x
      · simp [put, SM.look, e, e2]
      · simp [put, SM.look, e, e2]
    · by_cases e2 : p.1 = x
      · have : k ≠ x := fun h => e (by rw [e2, h])
        simp [put, SM.look, e2, this]
        rw [if_neg (fun h => this h.symm)]
        simp [SM.look, e2]
      · simp only [put, if_neg e, SM.look, if_neg e2, ih]

/-- The set map after SetAll: the value of the last pair, or the old one. -/
theorem foldA_look (T : Nat → ByteArray) (C : Nat → Nat) (nl : Nat) (A : AL) (x : ByteArray) : ∀ n,
    (∀ j, j < n → T (2 * j) = x → (∀ i, j < i → i < n → T (2 * i) ≠ x) → SM.look (foldA T C nl A n) x = some (svOf (C (2 * j + 1)) nl)) ∧
    ((∀ i, i < n → T (2 * i) ≠ x) → SM.look (foldA T C nl A n) x = SM.look A x)
  | 0 => ⟨fun j hj => absurd hj (by omega), fun _ => rfl⟩
  | n + 1 => by
    obtain ⟨h1, h2⟩ := foldA_look T C nl A x n
    refine ⟨fun j hj hT hl => ?_, fun hn => ?_⟩
    · show SM.look (put _ _ _) x = _
      rw [look_put]
      by_cases e : T (2 * n) = x
      · have : j = n := by
          rcases Nat.lt_or_ge j n with h | h
          · exact absurd e (hl n h (by omega))
          · omega
        subst this
        rw [if_pos e]
      · rw [if_neg e]
        have : j < n := by
          rcases Nat.lt_or_ge j n with h | h
          · exact h
          · exact absurd (show T (2 * n) = x by rw [← hT, show j = n by omega]) e
        exact h1 j this hT fun i hi hi2 => hl i hi (by omega)
    · show SM.look (put _ _ _) x = _
      rw [look_put, if_neg (hn n (by omega))]
      exact h2 fun i hi => hn i (by omega)

def ND (A : AL) : Prop := (A.map (·.1)).Nodup
theorem mem_put_keys {A : AL} {k x : ByteArray} {v : Value} (h : x ∈ (put A k v).map (·.1)) : x ∈ A.map (·.1) ∨ x = k := by
  obtain ⟨q, hq, rfl⟩ := List.mem_map.1 h
  rcases put_mem hq with h | rfl
  · exact .inl (List.mem_map.2 ⟨q, h, rfl⟩)
  · exact .inr rfl
theorem ND.put {A : AL} (h : ND A) (k : ByteArray) (v : Value) : ND (SM.put A k v) := by
  induction A with
  | nil => simp [ND, SM.put]
  | cons p A ih =>
    simp only [ND, List.map_cons, List.nodup_cons] at h
    by_cases e : p.1 = k
    · simp only [ND, SM.put, if_pos e, List.map_cons, List.nodup_cons]
      rw [← e]
      exact h
    · simp only [ND, SM.put, if_neg e, List.map_cons, List.nodup_cons]
      exact ⟨fun hm => (mem_put_keys hm).elim h.1 e, ih h.2⟩
theorem del_filter {A : AL} (h : ND A) (k : ByteArray) : SM.del A k = A.filter fun p => decide (p.1 ≠ k) := by
  induction A with
  | nil => rfl
  | cons p A ih =>
    simp only [ND, List.map_cons, List.nodup_cons] at h
    by_cases e : p.1 = k
    · simp only [SM.del, if_pos e]
      rw [List.filter_cons_of_neg (by simp [e]), List.filter_eq_self.2]
      intro q hq
      simp only [decide_eq_true_eq]
      intro hqk
      exact h.1 (List.mem_map.2 ⟨q, hq, by rw [hqk, e]⟩)
    · simp only [SM.del, if_neg e]
      rw [List.filter_cons_of_pos (by simp [e]), ih h.2]
theorem ND.filter {A : AL} (h : ND A) (f : ByteArray × Value → Bool) : ND (A.filter f) := (List.filter_sublist.map _).nodup h

theorem foldF_eq (T : Nat → ByteArray) {F : AL} (h : ND F) : ∀ n, foldF T F n = F.filter fun p => decide (∀ i, i < n → T (2 * i) ≠ p.1)
  | 0 => by
    show F = _
    exact (List.filter_eq_self.2 (fun p _ => by simp)).symm
  | n + 1 => by
    show SM.del (foldF T F n) _ = _
    rw [foldF_eq T h n, del_filter (h.filter _), List.filter_filter]
    apply List.filter_congr
    intro p _
    rw [← Bool.decide_and]
    apply decide_eq_decide.2
    constructor
    · rintro ⟨h1, h2⟩ i hi
      rcases Nat.lt_succ_iff_lt_or_eq.1 hi with h | rfl
      · exact h2 i h
      · exact fun e => h1 e.symm
    · intro h1
      exact ⟨fun e => h1 n (by omega) e.symm, fun i hi => h1 i (by omega)⟩

theorem look_filter {A : AL} (f : ByteArray × Value → Bool) {x : ByteArray} (h : ∀ p ∈ A, p.1 = x → f p = true) : SM.look (A.filter f) x = SM.look A x := by
  induction A with
  | nil => rfl
  | cons p A ih =>
    have ih' := ih fun q hq => h q (.tail _ hq)
    by_cases e : p.1 = x
    · rw [List.filter_cons_of_pos (h p (.head _) e)]
      simp [SM.look, e]
    · cases hf : f p with
      | true => rw [List.filter_cons_of_pos hf]; simp [SM.look, e, ih']
      | false => rw [List.filter_cons_of_neg (by simp [hf])]; simp [SM.look, e, ih']
theorem look_filter_none {A : AL} (f : ByteArray × Value → Bool) {x : ByteArray} (h : ∀ p ∈ A, p.1 = x → f p = false) : SM.look (A.filter f) x = none := by
  induction A with
  | nil => rfl
  | cons p A ih =>
    have ih' := ih fun q hq => h q (.tail _ hq)
    by_cases e : p.1 = x
    · rw [List.filter_cons_of_neg (by simp [h p (.head _) e])]; exact ih'
    · cases hf : f p with
      | true => rw [List.filter_cons_of_pos hf]; simp [SM.look, e, ih']
      | false => rw [List.filter_cons_of_neg (by simp [hf])]; exact ih'

theorem look_nd {A : AL} (h : ND A) {i : Nat} {k : ByteArray} {v : Value} (hi : A[i]? = some (k, v)) : SM.look A k = some v := by
  induction A generalizing i with
  | nil => simp at hi
  | cons p A ih =>
    simp only [ND, List.map_cons, List.nodup_cons] at h
    cases i with
    | zero => simp at hi; simp [SM.look, hi]
    | succ i =>
      have hi' : A[i]? = some (k, v) := by simpa using hi
      have : p.1 ≠ k := fun e => h.1 (List.mem_map.2 ⟨(k, v), List.mem_of_getElem? hi', e.symm⟩)
      simp [SM.look, this, ih h.2 hi']

end Go.Proofs.Ybulkexpby
