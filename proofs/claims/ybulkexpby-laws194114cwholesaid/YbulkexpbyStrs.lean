/- LawS194114CWhole: its small functions: idx (12), last (19), val (15). -/
import Derived.Test.YbulkexpbyRows
import Derived.Test.YbulkexpbyKit
import Derived.Test.YbulkexpbyMaps
import Derived.Laws.Strings
namespace Go.Proofs.Ybulkexpby
open Go.RowKit Go.PK Go.SM

theorem bb_iff (x y : ByteArray) : (x.toList == y.toList) = true ↔ x = y := by
  rw [beq_iff_eq, ByteArray.toList_eq, ByteArray.toList_eq]
  exact ⟨fun h => ByteArray.ext (Array.toList_inj.mp h), fun h => by rw [h]⟩
theorem bb_eq {x y : ByteArray} (h : x = y) : (x.toList == y.toList) = true := (bb_iff x y).2 h
theorem bb_ne {x y : ByteArray} (h : x ≠ y) : (x.toList == y.toList) = false := by
  rw [← Bool.not_eq_true, bb_iff]
  exact h

/-- A slice of strings in memory, as data. -/
def StrsAt (w : World) (v : Value) (n : Nat) (s : Nat → ByteArray) : Prop :=
  ∃ a cap, v = .slice a n cap ∧ n ≤ 100000 ∧ ∀ k, k < n → ∃ b o, a = some ⟨b, o, none⟩ ∧ b < w.heap.size ∧ w.cell? ⟨b, o + k, none⟩ = some (.string (s k))

def IdxIs (n : Nat) (s : Nat → ByteArray) (x : ByteArray) (r : Int) : Prop :=
  (∃ j : Nat, j < n ∧ r = j ∧ s j = x ∧ ∀ i, i < j → s i ≠ x) ∨ (r = -1 ∧ ∀ i, i < n → s i ≠ x)
def LastIs (n : Nat) (s : Nat → ByteArray) (x : ByteArray) (r : Int) : Prop :=
  (∃ j : Nat, j < n ∧ r = j ∧ s j = x ∧ ∀ i, j < i → i < n → s i ≠ x) ∨ (r = -1 ∧ ∀ i, i < n → s i ≠ x)

set_option maxHeartbeats 400000 in
theorem idx_any (v : Value) (n : Nat) (s : Nat → ByteArray) (x : ByteArray) (w : World) (h : StrsAt w v n s) :
    Calls Yba.prog 12 #[v, .string x] w fun e w' => w' = w ∧ ∃ r, e = .returned (.int .i64 r) ∧ IdxIs n s x r := by
  obtain ⟨a, cap, rfl, hn, hc⟩ := h
  go_enter Yba.func12, Yba.ntmps12
  go_wp2
  go_loop [5] (fun i => ∃ k : Nat, k ≤ n ∧ i = .int .i64 k ∧ ∀ j, j < k → s j ≠ x) (fun i => n - (intOf i).toNat)
  case atStart => exact ⟨0, by omega, rfl, fun j hj => absurd hj (by omega)⟩
  case round =>
    obtain ⟨k, hk, rfl, hne⟩ := hrel
    by_cases hlt : k < n
    · obtain ⟨b, o, rfl, hb, hck⟩ := hc k hlt
      by_cases he : s k = x
      · have hd := bb_eq he
        go_wp2
        go_ret
        exact ⟨rfl, _, rfl, .inl ⟨k, hlt, rfl, he, hne⟩⟩
      · have hd := bb_ne he
        go_wp2
        refine ⟨⟨k + 1, by omega, by go_num, fun j hj => ?_⟩, by simp [intOf]; omega⟩
        rcases Nat.lt_succ_iff_lt_or_eq.1 hj with h | rfl
        · exact hne j h
        · exact he
    · obtain rfl : k = n := by omega
      go_wp2
      go_ret
      exact ⟨rfl, _, rfl, .inr ⟨rfl, hne⟩⟩

set_option maxHeartbeats 400000 in
theorem last_any (v : Value) (n : Nat) (s : Nat → ByteArray) (x : ByteArray) (w : World) (h : StrsAt w v n s) :
    Calls Yba.prog 19 #[v, .string x] w fun e w' => w' = w ∧ ∃ r, e = .returned (.int .i64 r) ∧ LastIs n s x r := by
  obtain ⟨a, cap, rfl, hn, hc⟩ := h
  go_enter Yba.func19, Yba.ntmps19
  go_wp2
  go_loop [5] (fun i => ∃ k : Nat, k ≤ n ∧ i = .int .i64 ((k : Int) - 1) ∧ ∀ j, k ≤ j → j < n → s j ≠ x) (fun i => (intOf i + 1).toNat)
  case atStart => exact ⟨n, by omega, rfl, fun j h1 h2 => absurd h1 (by omega)⟩
  case round =>
    obtain ⟨k, hk, rfl, hne⟩ := hrel
    by_cases hlt : 0 < k
    · obtain ⟨k, rfl⟩ : ∃ m, k = m + 1 := ⟨k - 1, by omega⟩
      obtain ⟨b, o, rfl, hb, hck⟩ := hc k (by omega)
      have hs : ((k + 1 : Nat) : Int) - 1 = (k : Int) := by omega
      rw [hs]
      by_cases he : s k = x
      · have hd := bb_eq he
        go_wp2
        go_ret
        exact ⟨rfl, _, rfl, .inl ⟨k, by omega, rfl, he, fun i h1 h2 => hne i (by omega) h2⟩⟩
      · have hd := bb_ne he
        go_wp2
        refine ⟨⟨k, by omega, by go_num, fun j h1 h2 => ?_⟩, by simp [intOf]⟩
        rcases Nat.lt_or_eq_of_le h1 with h | rfl
        · exact hne j (by omega) h2
        · exact he
    · obtain rfl : k = 0 := by omega
      go_wp2
      go_ret
      exact ⟨rfl, _, rfl, .inr ⟨rfl, fun i hi => hne i (by omega) hi⟩⟩

def vText : ByteArray := ⟨#[118]⟩
/-- What zzs194114cval answers. -/
def valOf (n : Nat) (s : Nat → ByteArray) (i : Nat) : ByteArray := if n = 0 then vText else s (i % n)

set_option maxHeartbeats 400000 in
theorem val_any (v : Value) (n : Nat) (s : Nat → ByteArray) (i : Nat) (hi : i ≤ 100000) (w : World) (h : StrsAt w v n s) :
    Calls Yba.prog 15 #[v, .int .i64 i] w fun e w' => e = .returned (.string (valOf n s i)) ∧ w' = w := by
  obtain ⟨a, cap, rfl, hn, hc⟩ := h
  by_cases h0 : n = 0
  · subst h0
    go_enter Yba.func15, Yba.ntmps15
    go_wp2
    go_ret
    exact ⟨rfl, rfl⟩
  · have hm := Nat.mod_lt i (Nat.pos_of_ne_zero h0)
    obtain ⟨b, o, rfl, hb, hck⟩ := hc (i % n) hm
    have hr : (i : Int).tmod n = ((i % n : Nat) : Int) := by rw [Int.tmod_eq_emod_of_nonneg (by omega)]; omega
    have hv : valOf n s i = s (i % n) := by simp [valOf, h0]
    rw [hv]
    generalize i % n = q at *
    go_enter Yba.func15, Yba.ntmps15
    go_wp2
    go_ret
    exact ⟨rfl, rfl⟩

end Go.Proofs.Ybulkexpby
