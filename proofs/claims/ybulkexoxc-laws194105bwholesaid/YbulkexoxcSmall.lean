/- The small callees of LawS194105BWhole: newColumn at two types, watchers at no invariant; 'make' at a variable length. -/
import Derived.Test.YbulkexoxcRows
import Derived.Test.YbulkexoxcShelf
import Derived.Test.YbulkexoxcKit
namespace Go.Proofs.Ybulkexoxc
open Go.RowKit Go.PK

theorem Yba.info29 : (Yba.prog.info? 29).map (fun i => (i.zero, i.size, i.bytes)) = some (some (.slice none 0 0), 1, 24) := by kernel_rfl
theorem Yba.info53 : (Yba.prog.info? 53).map (fun i => (i.zero, i.size, i.bytes)) = some (some (.int .u64 0), 1, 8) := by kernel_rfl
theorem Yba.info3 : (Yba.prog.info? 3).map (fun i => (i.zero, i.size, i.bytes)) = some (some (.int .i64 0), 1, 8) := by kernel_rfl
theorem Yba.info21 : (Yba.prog.info? 21).map (fun i => (i.zero, i.size, i.bytes)) = some (some (.int .i32 0), 1, 4) := by kernel_rfl
theorem Yba.info9 : (Yba.prog.info? 9).map (fun i => (i.zero, i.size, i.bytes)) = some (some (.string ByteArray.empty), 1, 16) := by kernel_rfl

def colShift (k : Nat) : Int := max 0 (16 - (Lib.bitLen (k - 1) : Int))

theorem bitLenAux_le : ∀ f x : Nat, Lib.bitLenAux f x ≤ f := by
  intro f
  induction f with
  | zero => intro x; simp [Lib.bitLenAux]
  | succ f ih => intro x; simp only [Lib.bitLenAux]; split <;> (first | omega | (have := ih (x / 2); omega))
theorem bitLen_le (k : Nat) : Lib.bitLen k ≤ 64 := bitLenAux_le 64 k

set_option maxHeartbeats 400000 in
theorem col_node (k : Nat) (w : World) (h0 : 1 ≤ k) (h1 : k ≤ 100000) :
    Calls Yba.prog 10 #[.int .i64 k] w fun e w' => e = .returned (.agg #[.slice none 0 0, .int .i64 k, .int .u64 (colShift k), .int .i64 0]) ∧ Below w.heap.size w w' := by
  have hb := bitLen_le (k - 1)
  generalize hL : Lib.bitLen (k - 1) = L at hb
  have hcs : colShift k = max 0 (16 - (L : Int)) := by unfold colShift; rw [hL]
  have HC : Hid (colShift k = max 0 (16 - (L : Int))) := hcs
  clear hcs
  go_enter Yba.func10, Yba.ntmps10
  go_wp2_with (go_at_call 15; refine (Yba.bits_Len _ _ (by omega) (by omega)).mono ?_; rintro e w' ⟨rfl, rfl⟩)
  rw [HC.out]
  exact bodyPost_ret (v := .agg #[.slice none 0 0, .int .i64 k, .int .u64 (max 0 (16 - (L : Int))), .int .i64 0]) (by simp [results, Yba.results10, go_sem]) rfl ⟨rfl, (Below.refl _ _).alloc (Nat.le_refl _) _⟩

set_option maxHeartbeats 400000 in
theorem col_u64 (k : Nat) (w : World) (h0 : 1 ≤ k) (h1 : k ≤ 100000) :
    Calls Yba.prog 11 #[.int .i64 k] w fun e w' => e = .returned (.agg #[.slice none 0 0, .int .i64 k, .int .u64 (colShift k), .int .i64 0]) ∧ Below w.heap.size w w' := by
  have hb := bitLen_le (k - 1)
  generalize hL : Lib.bitLen (k - 1) = L at hb
  have hcs : colShift k = max 0 (16 - (L : Int)) := by unfold colShift; rw [hL]
  have HC : Hid (colShift k = max 0 (16 - (L : Int))) := hcs
  clear hcs
  go_enter Yba.func11, Yba.ntmps11
  go_wp2_with (go_at_call 15; refine (Yba.bits_Len _ _ (by omega) (by omega)).mono ?_; rintro e w' ⟨rfl, rfl⟩)
  rw [HC.out]
  exact bodyPost_ret (v := .agg #[.slice none 0 0, .int .i64 k, .int .u64 (max 0 (16 - (L : Int))), .int .i64 0]) (by simp [results, Yba.results11, go_sem]) rfl ⟨rfl, (Below.refl _ _).alloc (Nat.le_refl _) _⟩

set_option maxHeartbeats 400000 in
theorem watch_nil (n : Nat) (w : World) (h1 : n ≤ 100000) :
    Calls Yba.prog 12 #[.slice none 0 0, .int .i64 n] w fun e w' => e = .returned (.slice (some ⟨w.heap.size, 0, none⟩) n n) ∧ w' = w.alloc (.cells (rep n (.slice none 0 0)) 29) := by
  have hmk := make_one (P := Yba.prog) (t := 49) (e := 29) Yba.underlying49 Yba.info29 rfl n (by omega) (by omega)
  go_enter Yba.func12, Yba.ntmps12
  go_wp2
  go_loop [13] (fun i => i = .int .i64 0) (fun _ => 0)
  case atStart => rfl
  case round =>
    subst hrel
    go_wp2
    go_ret
    exact ⟨rfl, rfl⟩

end Go.Proofs.Ybulkexoxc
