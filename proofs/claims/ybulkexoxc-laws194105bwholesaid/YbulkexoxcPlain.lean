/- The plain reckoning of LawS194105BWhole: the greedy layout (no Go, no dump). -/
import Derived.Lib.BitFns
namespace Go.Proofs.Ybulkexoxc.Pl

def width (c : Nat) : Nat := if c = 0 then 64 else Lib.bitLen (c - 1)
theorem width_le64 : ∀ c : Fin 256, width c.val ≤ 64 := by decide +kernel
theorem width_le (c : Nat) (h : c ≤ 255) : width c ≤ 64 := width_le64 ⟨c, by omega⟩

theorem width_pos256 : ∀ c : Fin 256, c.val ≠ 0 → width c.val ≤ 8 ∧ c.val ≤ 2 ^ width c.val ∧ ∀ q : Fin 9, q.val < width c.val → 2 ^ q.val < c.val := by decide +kernel
theorem width_pos (c : Nat) (h0 : c ≠ 0) (h : c ≤ 255) : width c ≤ 8 ∧ c ≤ 2 ^ width c ∧ ∀ q, q < width c → 2 ^ q < c := by
  obtain ⟨h1, h2, h3⟩ := width_pos256 ⟨c, by omega⟩ h0
  exact ⟨h1, h2, fun q hq => h3 ⟨q, by have : q < width c := hq; have h1' : width c ≤ 8 := h1; omega⟩ hq⟩

structure St where
  words : Nat
  used : Nat
  starts : List Nat

def step (e c : Nat) (s : St) : St :=
  if 64 < s.used + width c then ⟨s.words + 1, width c, s.starts ++ [e]⟩ else ⟨s.words, s.used + width c, s.starts⟩

def st (c : Nat → Nat) : Nat → St
  | 0 => ⟨1, 0, [0]⟩
  | k + 1 => step k (c k) (st c k)

theorem st_inv (c : Nat → Nat) (hc : ∀ e, c e ≤ 255) : ∀ k, 1 ≤ (st c k).words ∧ (st c k).words ≤ k + 1 ∧ (st c k).used ≤ 64 ∧ (st c k).starts.length = (st c k).words := by
  intro k
  induction k with
  | zero => simp [st]
  | succ k ih =>
    have hw : width (c k) ≤ 64 := width_le _ (hc k)
    obtain ⟨h1, h2, h3, h4⟩ := ih
    simp only [st, step]
    split
    · simp; omega
    · simp; omega

theorem st_over {c : Nat → Nat} {k : Nat} (h : 64 < (st c k).used + width (c k)) :
    st c (k + 1) = ⟨(st c k).words + 1, width (c k), (st c k).starts ++ [k]⟩ := by simp [st, step, h]
theorem st_fits {c : Nat → Nat} {k : Nat} (h : ¬ 64 < (st c k).used + width (c k)) :
    st c (k + 1) = ⟨(st c k).words, (st c k).used + width (c k), (st c k).starts⟩ := by simp [st, step, h]

end Go.Proofs.Ybulkexoxc.Pl
