/- jsonschema.LawS194114AWhole (function 3): the walk. -/
import Derived.Test.YbulkexpbyBig
namespace Go.Proofs.Ybulkexpby
open Go.RowKit Go.PK

theorem run_store_float (P : Program) (w : World) (a : Addr) (m : Mode) (k : FloatKind) (n : Nat) : (store a (.float k n) m).run P w = stored P w a (.float k n) m := run_store P w a _ m rfl
attribute [local go_sem] run_store_float

def numOf (neg : Bool) (digits : ByteArray) (ex : Bool) (f : Nat) (bits : Option Addr) (td : Int) : Array Value :=
  #[.bool ex, .bool neg, .string digits, .int .i64 0, .string ByteArray.empty, .bool false, .float .f64 f, .pointer bits, .int .i64 td]

set_option maxHeartbeats 1000000 in
theorem lawA_no (neg : Bool) (digits : ByteArray) (mag : Int) (ex : Bool) (f : Nat) (td : Int) (w : World) :
    Calls Yba.prog 3 #[.bool neg, .string digits, .bool false, .int .u64 mag, .bool ex, .float .f64 f, .int .i64 td] w fun e w' => e = .returned (.bool true) ∧ Below w.heap.size w w' := by
  have hd : digits.toList.isEmpty = true ∨ digits.toList.isEmpty = false := by cases digits.toList.isEmpty <;> simp
  rcases hd with hd | hd <;> cases neg
  all_goals
    go_enter Yba.func3, Yba.ntmps3
    go_wp2
    go_ret
    exact ⟨rfl, ((Below.refl _ _).alloc (Nat.le_refl _) _).alloc (by simp) _⟩

theorem IsBig.keep {m : Int} {zb N : Nat} {w w' : World} (h : IsBig m zb w) (hk : ∀ b, b < w.heap.size → b ≠ N → w'.heap[b]? = w.heap[b]?) (hN : w.heap.size ≤ N) : IsBig m zb w' := by
  rcases h with ⟨h0, h1⟩ | ⟨h0, b, h1, h2⟩
  · exact .inl ⟨h0, by rw [hk _ (blk_lt h1) (by have := blk_lt h1; omega)]; exact h1⟩
  · exact .inr ⟨h0, b, by rw [hk _ (blk_lt h1) (by have := blk_lt h1; omega)]; exact h1, by rw [hk _ (blk_lt h2) (by have := blk_lt h2; omega)]; exact h2⟩

set_option maxHeartbeats 2000000 in
theorem lawA_yes_false (digits : ByteArray) (mag : Int) (ex : Bool) (f : Nat) (td : Int) (w : World) (hm : 0 ≤ mag) :
    Calls Yba.prog 3 #[.bool false, .string digits, .bool true, .int .u64 mag, .bool ex, .float .f64 f, .int .i64 td] w fun e w' => e = .returned (.bool true) ∧ Below w.heap.size w w' := by
  have hd : digits.toList.isEmpty = true ∨ digits.toList.isEmpty = false := by cases digits.toList.isEmpty <;> simp
  rcases hd with hd | hd
  all_goals
    go_enter Yba.func3, Yba.ntmps3
    go_wp2_with fail
    refine (set_any mag _ _ hm (blk_new _ _)).mono ?_
    rintro e w1 ⟨rfl, hb1, hs1, ho1, ht1, hu1, hk1⟩
    have hB1 : Below w.heap.size w w1 := ((Below.refl _ _).alloc (Nat.le_refl _) (.cells #[.bool false, .slice none 0 0] 28)).trans ⟨ho1, ht1, hu1, hs1, fun k hk => hk1 k (by simp; omega) (by omega)⟩
    clear ho1 ht1 hu1 hk1
    simp only [World.size_alloc] at hs1
    go_wp2_with (go_at_call 7; go_in)
    refine (set_any mag (w1.heap.size + 1 + 1) _ hm (by exact blk_at (by simp))).mono ?_
    rintro e w2 ⟨rfl, hb2, hs2, ho2, ht2, hu2, hk2⟩
    simp only [World.size_alloc] at hs2 hk2
    have hkk : ∀ b, b < w1.heap.size → b ≠ w1.heap.size → w2.heap[b]? = w1.heap[b]? := fun b hb _ => by
      rw [hk2 b (by omega) (by omega), Below.heap_alloc _ _ _ (by simp; omega), Below.heap_alloc _ _ _ (by simp; omega), Below.heap_alloc _ _ _ hb]
    have NB : w2.heap[w1.heap.size]? = some (Obj.cells #[Value.bool ex, Value.bool false, Value.string digits, Value.int IntKind.i64 0, Value.string ByteArray.empty, Value.bool false, Value.float FloatKind.f64 f, Value.pointer (some ⟨w.heap.size, 0, none⟩), Value.int IntKind.i64 td] 35) := by
      rw [hk2 _ (by omega) (by omega), Below.heap_alloc _ _ _ (by simp only [World.size_alloc]; omega), Below.heap_alloc _ _ _ (by simp only [World.size_alloc]; omega)]
      exact blk_new w1 (Obj.cells #[Value.bool ex, Value.bool false, Value.string digits, Value.int IntKind.i64 0, Value.string ByteArray.empty, Value.bool false, Value.float FloatKind.f64 f, Value.pointer (some ⟨w.heap.size, 0, none⟩), Value.int IntKind.i64 td] 35)
    have hB2 : Below w.heap.size w w2 := by
      refine hB1.trans ⟨ho2, ht2, hu2, by omega, fun k hk => hkk k (by omega) (by omega)⟩
    have hb1' := hb1.keep hkk (Nat.le_refl _)
    have n1 : w2.cell? ⟨w1.heap.size, 1, none⟩ = some (.bool false) := by rw [cell_of_row _ _ _ _ _ _ NB]; rfl
    have n2 : w2.cell? ⟨w1.heap.size, 2, none⟩ = some (.string digits) := by rw [cell_of_row _ _ _ _ _ _ NB]; rfl
    have hlt := blk_lt NB
    clear hk2 ho2 ht2 hu2 hkk NB
    go_wp2_with fail
    refine (big_cmp mag _ _ _ (by omega) hb1' hb2).mono ?_
    rintro e w3 ⟨rfl, hb3⟩
    have n1' : w3.cell? ⟨w1.heap.size, 1, none⟩ = some (.bool false) := by rw [hb3.cell (p := ⟨w1.heap.size, 1, none⟩) hlt]; exact n1
    have n2' : w3.cell? ⟨w1.heap.size, 2, none⟩ = some (.string digits) := by rw [hb3.cell (p := ⟨w1.heap.size, 2, none⟩) hlt]; exact n2
    have hB3 : Below w.heap.size w w3 := hB2.trans (hb3.mono hB2.size)
    clear n1 n2
    go_wp2_with fail
    go_ret
    exact ⟨rfl, hB3⟩

set_option maxHeartbeats 2000000 in
theorem lawA_yes_true (digits : ByteArray) (mag : Int) (ex : Bool) (f : Nat) (td : Int) (w : World) (hm : 0 ≤ mag) :
    Calls Yba.prog 3 #[.bool true, .string digits, .bool true, .int .u64 mag, .bool ex, .float .f64 f, .int .i64 td] w fun e w' => e = .returned (.bool true) ∧ Below w.heap.size w w' := by
  have hd : digits.toList.isEmpty = true ∨ digits.toList.isEmpty = false := by cases digits.toList.isEmpty <;> simp
  rcases hd with hd | hd
  all_goals
    go_enter Yba.func3, Yba.ntmps3
    go_wp2_with fail
    refine (set_any mag _ _ hm (blk_new _ _)).mono ?_
    rintro e w1 ⟨rfl, hb1, hs1, ho1, ht1, hu1, hk1⟩
    have hB1 : Below w.heap.size w w1 := ((Below.refl _ _).alloc (Nat.le_refl _) (.cells #[.bool false, .slice none 0 0] 28)).trans ⟨ho1, ht1, hu1, hs1, fun k hk => hk1 k (by simp; omega) (by omega)⟩
    clear ho1 ht1 hu1 hk1
    simp only [World.size_alloc] at hs1
    go_wp2_with (go_at_call 7; go_in)
    refine (set_any mag (w1.heap.size + 1 + 1) _ hm (by exact blk_at (by simp))).mono ?_
    rintro e w2 ⟨rfl, hb2, hs2, ho2, ht2, hu2, hk2⟩
    simp only [World.size_alloc] at hs2 hk2
    have hkk : ∀ b, b < w1.heap.size → b ≠ w1.heap.size → w2.heap[b]? = w1.heap[b]? := fun b hb _ => by
      rw [hk2 b (by omega) (by omega), Below.heap_alloc _ _ _ (by simp; omega), Below.heap_alloc _ _ _ (by simp; omega), Below.heap_alloc _ _ _ hb]
    have NB : w2.heap[w1.heap.size]? = some (Obj.cells #[Value.bool ex, Value.bool true, Value.string digits, Value.int IntKind.i64 0, Value.string ByteArray.empty, Value.bool false, Value.float FloatKind.f64 f, Value.pointer (some ⟨w.heap.size, 0, none⟩), Value.int IntKind.i64 td] 35) := by
      rw [hk2 _ (by omega) (by omega), Below.heap_alloc _ _ _ (by simp only [World.size_alloc]; omega), Below.heap_alloc _ _ _ (by simp only [World.size_alloc]; omega)]
      exact blk_new w1 (Obj.cells #[Value.bool ex, Value.bool true, Value.string digits, Value.int IntKind.i64 0, Value.string ByteArray.empty, Value.bool false, Value.float FloatKind.f64 f, Value.pointer (some ⟨w.heap.size, 0, none⟩), Value.int IntKind.i64 td] 35)
    have hB2 : Below w.heap.size w w2 := by
      refine hB1.trans ⟨ho2, ht2, hu2, by omega, fun k hk => hkk k (by omega) (by omega)⟩
    have hb1' := hb1.keep hkk (Nat.le_refl _)
    have n1 : w2.cell? ⟨w1.heap.size, 1, none⟩ = some (.bool true) := by rw [cell_of_row _ _ _ _ _ _ NB]; rfl
    have n2 : w2.cell? ⟨w1.heap.size, 2, none⟩ = some (.string digits) := by rw [cell_of_row _ _ _ _ _ _ NB]; rfl
    have hlt := blk_lt NB
    clear hk2 ho2 ht2 hu2 hkk NB
    go_wp2_with fail
    refine (big_cmp mag _ _ _ (by omega) hb1' hb2).mono ?_
    rintro e w3 ⟨rfl, hb3⟩
    have n1' : w3.cell? ⟨w1.heap.size, 1, none⟩ = some (.bool true) := by rw [hb3.cell (p := ⟨w1.heap.size, 1, none⟩) hlt]; exact n1
    have n2' : w3.cell? ⟨w1.heap.size, 2, none⟩ = some (.string digits) := by rw [hb3.cell (p := ⟨w1.heap.size, 2, none⟩) hlt]; exact n2
    have hB3 : Below w.heap.size w w3 := hB2.trans (hb3.mono hB2.size)
    clear n1 n2
    go_wp2_with fail
    go_ret
    exact ⟨rfl, hB3⟩

end Go.Proofs.Ybulkexpby
