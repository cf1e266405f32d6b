/- LawS194114CWhole: slices.Clone at []string (13) and []*yaml.Node (16), slices.Equal at []string (18). -/
import Derived.Test.YbulkexpbyStrs
import Derived.Maps.AppendAt
import Derived.OwnWalk
import Derived.BigQuiet
import Derived.Deep.QuietTactic
namespace Go.Proofs.Ybulkexpby
open Go.RowKit Go.PK Go.SM

/-- A slice of one-cell elements in memory, as data. -/
def RowAt (w : World) (v : Value) (n : Nat) (V : Nat → Value) : Prop :=
  ∃ a cap, v = .slice a n cap ∧ n ≤ 100000 ∧ ∀ k, k < n → ∃ b o, a = some ⟨b, o, none⟩ ∧ b < w.heap.size ∧ w.cell? ⟨b, o + k, none⟩ = some (V k)
def vals (n : Nat) (V : Nat → Value) : List Value := (List.range n).map V
theorem vals_len (n : Nat) (V : Nat → Value) : (vals n V).length = n := by simp [vals]
theorem vals_get (n : Nat) (V : Nat → Value) (k : Nat) (h : k < n) : (vals n V)[k]? = some (V k) := by simp [vals, h]

theorem RowAt.keep {w w' : World} {v : Value} {n : Nat} {V : Nat → Value} {B : Nat} (h : RowAt w v n V) (hb : Below B w w') (hlt : ∀ q, v.ownBlock = some q → q < B) : RowAt w' v n V := by
  obtain ⟨a, cap, rfl, hn, hc⟩ := h
  refine ⟨a, cap, rfl, hn, fun k hk => ?_⟩
  obtain ⟨b, o, rfl, hbl, hck⟩ := hc k hk
  have := hlt b rfl
  exact ⟨b, o, rfl, Nat.lt_of_lt_of_le hbl hb.size, by rw [hb.cell (p := ⟨b, o + k, none⟩) this]; exact hck⟩
theorem RowAt.keep' {w w' : World} {v : Value} {n : Nat} {V : Nat → Value} (h : RowAt w v n V) (hb : Below w.heap.size w w') : RowAt w' v n V := by
  obtain ⟨a, cap, rfl, hn, hc⟩ := h
  refine ⟨a, cap, rfl, hn, fun k hk => ?_⟩
  obtain ⟨b, o, rfl, hbl, hck⟩ := hc k hk
  exact ⟨b, o, rfl, Nat.lt_of_lt_of_le hbl hb.size, by rw [hb.cell (p := ⟨b, o + k, none⟩) hbl]; exact hck⟩

theorem Yba.info9 : (Yba.prog.info? 9).map (fun i => (i.zero, i.size, i.bytes)) = some (some (.string ByteArray.empty), 1, 16) := by kernel_rfl
theorem Yba.info43 : (Yba.prog.info? 43).map (fun i => (i.zero, i.size, i.bytes)) = some (some (.pointer none), 1, 8) := by kernel_rfl

set_option maxHeartbeats 400000 in
theorem clone_strs (v : Value) (n : Nat) (V : Nat → Value) (w : World) (h : RowAt w v n V) (h1 : ∀ k, k < n → (V k).oneCell' = true) :
    Calls Yba.prog 13 #[v] w fun e w' => ∃ u, e = .returned u ∧ w'.ownsRow w.heap.size 9 1 u n (vals n V) ∧ Below w.heap.size w w' ∧ (n ≠ 0 → u ≠ .slice none 0 0) := by
  have q39 := fun w a m c => Lib.run_eql_slice_nil (P := Yba.prog) w 39 _ a m c 0 0 Yba.underlying39
  obtain ⟨a, cap, rfl, hn, hc⟩ := h
  cases a with
  | none =>
    have h0 : n = 0 := by
      rcases Nat.eq_zero_or_pos n with h | h
      · exact h
      · obtain ⟨b, o, e, _⟩ := hc 0 h; cases e
    subst h0
    go_enter Yba.func13, Yba.ntmps13
    go_wp2
    go_ret
    exact ⟨_, rfl, World.ownsRow_nil _ _ _ _, Below.refl _ _, fun h => absurd rfl h⟩
  | some x =>
    obtain ⟨i0, hi, hz0, hz1, hz2⟩ := info_parts Yba.info9
    go_enter Yba.func13, Yba.ntmps13
    go_wp2_with (at_builtin; refine wpList_append_own_at _ rfl _ _ 39 rfl w.heap.size 9 i0 _ 1 16 Yba.underlying39 hi hz0 hz1 hz2 rfl (by decide) _ 0 [] rfl ?ho x n cap (vals n V) rfl (by simp [vals_len]) ?hcell ?hone (by unfold maxLen; omega) (by omega) (by simp) ?hk)
    case ho => exact own_mk (cur := #[]) (blk_new _ _) (Nat.le_refl _) (Nat.le_refl _) (by unfold maxLen; omega) rfl
    case hcell =>
      intro j u hj
      have hjl : j < n := by have := (List.getElem?_eq_some_iff.1 hj).1; simpa [vals_len] using this
      rw [vals_get n V j hjl] at hj
      cases hj
      obtain ⟨b, o, e, hbl, hck⟩ := hc j hjl
      cases e
      rw [Go.WideShapes.add_plain, ((Below.refl _ _).alloc (Nat.le_refl _) _).cell (p := ⟨b, o + j, none⟩) hbl]
      exact hck
    case hone =>
      intro u hu
      simp only [vals, List.mem_map, List.mem_range] at hu
      obtain ⟨k, hk, rfl⟩ := hu
      exact h1 k hk
    case hk =>
      intro v' w1 hown hgrow hnil hloc
      go_wp2
      go_ret
      exact ⟨v', rfl, hown, ((Below.refl _ _).alloc (Nat.le_refl _) _).grown hgrow (by simp) (fun k hk => by cases hk; exact Nat.le_refl _), fun _ => hnil⟩

set_option maxHeartbeats 400000 in
theorem clone_nodes (v : Value) (n : Nat) (V : Nat → Value) (w : World) (h : RowAt w v n V) (h1 : ∀ k, k < n → (V k).oneCell' = true) :
    Calls Yba.prog 16 #[v] w fun e w' => ∃ u, e = .returned u ∧ w'.ownsRow w.heap.size 43 1 u n (vals n V) ∧ Below w.heap.size w w' ∧ (n ≠ 0 → u ≠ .slice none 0 0) := by
  have q47 := fun w a m c => Lib.run_eql_slice_nil (P := Yba.prog) w 47 _ a m c 0 0 Yba.underlying47
  obtain ⟨a, cap, rfl, hn, hc⟩ := h
  cases a with
  | none =>
    have h0 : n = 0 := by
      rcases Nat.eq_zero_or_pos n with h | h
      · exact h
      · obtain ⟨b, o, e, _⟩ := hc 0 h; cases e
    subst h0
    go_enter Yba.func16, Yba.ntmps16
    go_wp2
    go_ret
    exact ⟨_, rfl, World.ownsRow_nil _ _ _ _, Below.refl _ _, fun h => absurd rfl h⟩
  | some x =>
    obtain ⟨i0, hi, hz0, hz1, hz2⟩ := info_parts Yba.info43
    go_enter Yba.func16, Yba.ntmps16
    go_wp2_with (at_builtin; refine wpList_append_own_at _ rfl _ _ 47 rfl w.heap.size 43 i0 _ 1 8 Yba.underlying47 hi hz0 hz1 hz2 rfl (by decide) _ 0 [] rfl ?ho x n cap (vals n V) rfl (by simp [vals_len]) ?hcell ?hone (by unfold maxLen; omega) (by omega) (by simp) ?hk)
    case ho => exact own_mk (cur := #[]) (blk_new _ _) (Nat.le_refl _) (Nat.le_refl _) (by unfold maxLen; omega) rfl
    case hcell =>
      intro j u hj
      have hjl : j < n := by have := (List.getElem?_eq_some_iff.1 hj).1; simpa [vals_len] using this
      rw [vals_get n V j hjl] at hj
      cases hj
      obtain ⟨b, o, e, hbl, hck⟩ := hc j hjl
      cases e
      rw [Go.WideShapes.add_plain, ((Below.refl _ _).alloc (Nat.le_refl _) _).cell (p := ⟨b, o + j, none⟩) hbl]
      exact hck
    case hone =>
      intro u hu
      simp only [vals, List.mem_map, List.mem_range] at hu
      obtain ⟨k, hk, rfl⟩ := hu
      exact h1 k hk
    case hk =>
      intro v' w1 hown hgrow hnil hloc
      go_wp2
      go_ret
      exact ⟨v', rfl, hown, ((Below.refl _ _).alloc (Nat.le_refl _) _).grown hgrow (by simp) (fun k hk => by cases hk; exact Nat.le_refl _), fun _ => hnil⟩

set_option maxHeartbeats 400000 in
theorem equal_strs (v1 v2 : Value) (n : Nat) (s : Nat → ByteArray) (w : World) (h1 : StrsAt w v1 n s) (h2 : StrsAt w v2 n s) :
    Calls Yba.prog 18 #[v1, v2] w fun e w' => e = .returned (.bool true) ∧ Below w.heap.size w w' := by
  obtain ⟨a1, c1, rfl, hn, hc1⟩ := h1
  obtain ⟨a2, c2, rfl, _, hc2⟩ := h2
  go_enter Yba.func18, Yba.ntmps18
  go_wp2
  go_loopw [13] (fun i x => ∃ k : Nat, k ≤ n ∧ i = .int .i64 k ∧ Below w.heap.size w x) (fun i _ => n - (intOf i).toNat)
  case atStart => exact ⟨0, by omega, rfl, Below.refl _ _⟩
  case round =>
    obtain ⟨k, hk, rfl, hbx⟩ := hrel
    by_cases hlt : k < n
    · obtain ⟨b1, o1, rfl, hb1, hk1⟩ := hc1 k hlt
      obtain ⟨b2, o2, rfl, hb2, hk2⟩ := hc2 k hlt
      have e1 : wr.cell? ⟨b1, o1 + k, none⟩ = some (.string (s k)) := by rw [hbx.cell (p := ⟨b1, o1 + k, none⟩) hb1]; exact hk1
      have e2 : wr.cell? ⟨b2, o2 + k, none⟩ = some (.string (s k)) := by rw [hbx.cell (p := ⟨b2, o2 + k, none⟩) hb2]; exact hk2
      clear hc1 hc2 hk1 hk2
      have hs := bb_eq (rfl : s k = s k)
      go_wp2
      go_quiet (fail)
      go_wp2
      exact ⟨⟨k + 1, by omega, by go_num, below_drewN hbx _⟩, by simp [intOf]; omega⟩
    · obtain rfl : k = n := by omega
      go_wp2
      go_ret
      exact ⟨rfl, hbx⟩

end Go.Proofs.Ybulkexpby
