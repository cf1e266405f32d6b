/- math/big on the road of LawS194114AWhole: SetUint64 on a new Int; Cmp of two such. -/
import Derived.Test.YbulkexpbyRows
import Derived.Test.YbulkexpbyKit
import Derived.Deep.QuietTactic
import Derived.BigQuiet
namespace Go.Proofs.Ybulkexpby
open Go.RowKit Go.PK

set_option maxHeartbeats 400000 in
theorem natMake_one (w : World) : Calls Yba.prog 31 #[.slice none 0 0, .int .i64 1] w fun e w' => e = .returned (.slice (some ⟨w.heap.size, 0, none⟩) 1 1) ∧ w' = w.alloc (.cells #[.int .u64 0] 89) := by
  have hmk : ∀ w, (Instr.makeSlice 26 (.int .i64 1) (.int .i64 1)).run Yba.prog w = .ok (.slice (some ⟨w.heap.size, 0, none⟩) 1 1) (w.alloc (.cells #[.int .u64 0] 89)) := fun _ => by kernel_rfl
  go_enter Yba.func31, Yba.ntmps31
  go_wp2
  go_ret
  exact ⟨rfl, rfl⟩

set_option maxHeartbeats 400000 in
theorem setWord_zero (w : World) : Calls Yba.prog 30 #[.slice none 0 0, .int .u64 0] w fun e w' => e = .returned (.slice none 0 0) ∧ w' = w := by
  go_enter Yba.func30, Yba.ntmps30
  go_wp2
  go_ret
  exact ⟨rfl, rfl⟩

set_option maxHeartbeats 400000 in
theorem setWord_pos (m : Int) (w : World) (h : 0 < m) : Calls Yba.prog 30 #[.slice none 0 0, .int .u64 m] w fun e w' => e = .returned (.slice (some ⟨w.heap.size, 0, none⟩) 1 1) ∧ w' = w.alloc (.cells #[.int .u64 m] 89) := by
  have hm : (m == 0) = false := by rw [beq_eq_false_iff_ne]; omega
  go_enter Yba.func30, Yba.ntmps30
  go_wp2_with (go_at_call 31; refine (natMake_one _).mono ?_; rintro e w' ⟨rfl, rfl⟩)
  go_ret
  exact ⟨rfl, rfl⟩

set_option maxHeartbeats 400000 in
theorem setU64_zero (w : World) : Calls Yba.prog 26 #[.slice none 0 0, .int .u64 0] w fun e w' => e = .returned (.slice none 0 0) ∧ w' = w := by
  go_enter Yba.func26, Yba.ntmps26
  go_wp2_with (go_at_call 30; refine (setWord_zero _).mono ?_; rintro e w' ⟨rfl, rfl⟩)
  go_ret
  exact ⟨rfl, rfl⟩

set_option maxHeartbeats 400000 in
theorem setU64_pos (m : Int) (w : World) (h : 0 < m) : Calls Yba.prog 26 #[.slice none 0 0, .int .u64 m] w fun e w' => e = .returned (.slice (some ⟨w.heap.size, 0, none⟩) 1 1) ∧ w' = w.alloc (.cells #[.int .u64 m] 89) := by
  go_enter Yba.func26, Yba.ntmps26
  go_wp2_with (go_at_call 30; refine (setWord_pos _ _ h).mono ?_; rintro e w' ⟨rfl, rfl⟩)
  go_ret
  exact ⟨rfl, rfl⟩

theorem cells2 {w : World} {b : Nat} {x y : Value} {t : TypeId} (h : w.heap[b]? = some (.cells #[x, y] t)) :
    w.cell? ⟨b, 0, none⟩ = some x ∧ w.cell? ⟨b, 1, none⟩ = some y ∧ ∀ j, w.frozen? ⟨b, j, none⟩ = false :=
  ⟨by rw [cell_of_row w b 0 _ t _ h]; rfl, by rw [cell_of_row w b 1 _ t _ h]; rfl, fun j => frozen_of_row w b j _ t h⟩

/-- What a big.Int holds that was set to m. -/
def IsBig (m : Int) (zb : Nat) (w : World) : Prop :=
  (m = 0 ∧ w.heap[zb]? = some (.cells #[.bool false, .slice none 0 0] 28)) ∨
  (0 < m ∧ ∃ b, w.heap[zb]? = some (.cells #[.bool false, .slice (some ⟨b, 0, none⟩) 1 1] 28) ∧ w.heap[b]? = some (.cells #[.int .u64 m] 89))

set_option maxHeartbeats 400000 in
theorem set_any (m : Int) (zb : Nat) (w : World) (hm : 0 ≤ m) (hz : w.heap[zb]? = some (.cells #[.bool false, .slice none 0 0] 28)) :
    Calls Yba.prog 6 #[.pointer (some ⟨zb, 0, none⟩), .int .u64 m] w fun e w' => e = .returned (.pointer (some ⟨zb, 0, none⟩)) ∧ IsBig m zb w' ∧ w.heap.size ≤ w'.heap.size ∧ w'.os = w.os ∧ w'.tape = w.tape ∧ w'.output = w.output ∧ ∀ b, b < w.heap.size → b ≠ zb → w'.heap[b]? = w.heap[b]? := by
  obtain ⟨z0, z1, zf⟩ := cells2 hz
  have hzl := blk_lt hz
  by_cases h0 : m = 0
  · subst h0
    go_enter Yba.func6, Yba.ntmps6
    go_wp2_with (go_at_call 26; refine (setU64_zero _).mono ?_; rintro e w' ⟨rfl, rfl⟩)
    go_ret
    refine ⟨rfl, .inl ⟨rfl, blk_same (blk_same hz 1 _) 0 _⟩, by simp, rfl, rfl, rfl, fun b hb hne => ?_⟩
    rw [Below.heap_setCell _ _ _ _ hne, Below.heap_setCell _ _ _ _ hne]
  · have hp : 0 < m := by omega
    go_enter Yba.func6, Yba.ntmps6
    go_wp2_with (go_at_call 26; refine (setU64_pos _ _ hp).mono ?_; rintro e w' ⟨rfl, rfl⟩)
    go_ret
    refine ⟨rfl, .inr ⟨hp, w.heap.size, blk_alloc (blk_same (blk_same hz 1 _) 0 _) _, blk_at (by simp)⟩, by simp, rfl, rfl, rfl, fun b hb hne => ?_⟩
    rw [Below.heap_alloc _ _ _ (by simpa using hb), Below.heap_setCell _ _ _ _ hne, Below.heap_setCell _ _ _ _ hne]

set_option maxHeartbeats 400000 in
theorem cmp_nil (w : World) : Calls Yba.prog 27 #[.slice none 0 0, .slice none 0 0] w fun e w' => e = .returned (.int .i64 0) ∧ w' = w := by
  go_enter Yba.func27, Yba.ntmps27
  go_wp2
  go_ret
  exact ⟨rfl, rfl⟩

set_option maxHeartbeats 1000000 in
theorem cmp_one (m : Int) (b c : Nat) (w : World) (hb : w.cell? ⟨b, 0, none⟩ = some (.int .u64 m)) (hc : w.cell? ⟨c, 0, none⟩ = some (.int .u64 m)) :
    Calls Yba.prog 27 #[.slice (some ⟨b, 0, none⟩) 1 1, .slice (some ⟨c, 0, none⟩) 1 1] w fun e w' => e = .returned (.int .i64 0) ∧ ∃ q, w' = w.drewN q := by
  go_enter Yba.func27, Yba.ntmps27
  go_wp2_with fail
  go_loopw [7] (fun i wr => i = .int .i64 0 ∧ wr = w) (fun _ _ => 0)
  case atStart => exact ⟨rfl, rfl⟩
  case round =>
    obtain ⟨rfl, rfl⟩ := hrel
    go_wp2_with fail
    go_quiet (fail)
    go_wp2_with fail
    go_quiet (fail)
    go_wp2_with fail
    go_quiet (fail)
    go_wp2_with fail
    go_ret
    exact ⟨rfl, _, by rw [World.drewN_drewN, World.drewN_drewN]⟩

theorem neq_xy (w : World) {xb yb : Nat} {x y : Array Value} {t t' : TypeId} (hne : xb ≠ yb) (hx : w.heap[xb]? = some (.cells x t)) (hy : w.heap[yb]? = some (.cells y t')) :
    (binOp .eql 24 (.pointer (some ⟨xb, 0, none⟩)) (.pointer (some ⟨yb, 0, none⟩))).run Yba.prog w = .ok (.bool false) w := by
  obtain ⟨j, hj, hs⟩ : ∃ j, Yba.prog.info? 28 = some j ∧ j.size = 2 := by
    have h : (Yba.prog.info? 28).map (fun i => i.size) = some 2 := by kernel_rfl
    exact Option.map_eq_some_iff.1 h
  exact run_eql_ptr_other w Yba.underlying24 hj (by omega) (by intro h; cases h; exact hne rfl) hx hy

set_option maxHeartbeats 1000000 in
theorem big_cmp (m : Int) (xb yb : Nat) (w : World) (hne : xb ≠ yb) (hx : IsBig m xb w) (hy : IsBig m yb w) :
    Calls Yba.prog 8 #[.pointer (some ⟨xb, 0, none⟩), .pointer (some ⟨yb, 0, none⟩)] w fun e w' => e = .returned (.int .i64 0) ∧ Below w.heap.size w w' := by
  rcases hx with ⟨h0, hx⟩ | ⟨h0, bx, hx, hbx⟩ <;> rcases hy with ⟨h1, hy⟩ | ⟨h1, by', hy, hby⟩
  · obtain ⟨x0, x1, _⟩ := cells2 hx
    obtain ⟨y0, y1, _⟩ := cells2 hy
    have hq := neq_xy w hne hx hy
    clear h0 h1
    go_enter Yba.func8, Yba.ntmps8
    go_wp2_with fail
    go_quiet (fail)
    go_wp2_with fail
    obtain ⟨w1, hw1⟩ : ∃ w1, w1 = w.drewN nq := ⟨_, rfl⟩
    rw [← hw1]
    have x1' : w1.cell? ⟨xb, 1, none⟩ = some (.slice none 0 0) := by rw [hw1]; exact x1
    have y1' : w1.cell? ⟨yb, 1, none⟩ = some (.slice none 0 0) := by rw [hw1]; exact y1
    have x0' : w1.cell? ⟨xb, 0, none⟩ = some (.bool false) := by rw [hw1]; exact x0
    have hB : Below w.heap.size w w1 := by rw [hw1]; exact below_drewN (Below.refl _ _) _
    clear hw1 x0 x1 y0 y1 hq
    go_quiet ((go_at_call 27; exact Calls.quiet_of_same (cmp_nil _)))
    go_wp2_with fail
    go_ret
    exact ⟨rfl, below_drewN hB _⟩
  · omega
  · omega
  · obtain ⟨x0, x1, _⟩ := cells2 hx
    obtain ⟨y0, y1, _⟩ := cells2 hy
    have hq := neq_xy w hne hx hy
    have bx0 : w.cell? ⟨bx, 0, none⟩ = some (.int .u64 m) := by rw [cell_of_row w bx 0 _ 89 _ hbx]; rfl
    have by0 : w.cell? ⟨by', 0, none⟩ = some (.int .u64 m) := by rw [cell_of_row w by' 0 _ 89 _ hby]; rfl
    clear h0 h1
    go_enter Yba.func8, Yba.ntmps8
    go_wp2_with fail
    go_quiet (fail)
    go_wp2_with fail
    obtain ⟨w1, hw1⟩ : ∃ w1, w1 = w.drewN nq := ⟨_, rfl⟩
    rw [← hw1]
    have x1' : w1.cell? ⟨xb, 1, none⟩ = some (.slice (some ⟨bx, 0, none⟩) 1 1) := by rw [hw1]; exact x1
    have y1' : w1.cell? ⟨yb, 1, none⟩ = some (.slice (some ⟨by', 0, none⟩) 1 1) := by rw [hw1]; exact y1
    have x0' : w1.cell? ⟨xb, 0, none⟩ = some (.bool false) := by rw [hw1]; exact x0
    have bx0' : w1.cell? ⟨bx, 0, none⟩ = some (.int .u64 m) := by rw [hw1]; exact bx0
    have by0' : w1.cell? ⟨by', 0, none⟩ = some (.int .u64 m) := by rw [hw1]; exact by0
    have hB : Below w.heap.size w w1 := by rw [hw1]; exact below_drewN (Below.refl _ _) _
    clear hw1 x0 x1 y0 y1 hq bx0 by0
    go_quiet ((go_at_call 27; refine Calls.quiet_of (cmp_one m _ _ _ ?_ ?_); exact bx0'; exact by0'))
    go_wp2_with fail
    go_ret
    exact ⟨rfl, below_drewN hB _⟩

end Go.Proofs.Ybulkexpby
