/- LawS194118BWhole: Licenses (30), IDs (20) at a simple expression with an id. -/
import Derived.Test.YbulkexpecFmtIds
namespace Go.Proofs.YbulkexpecFmt
open Go.RowKit Go.PK
set_option linter.unusedVariables false

theorem run_store_fn {P : Program} (w : World) (a : Addr) (m : Mode) (f : Fn) (x y : Array Value) : (store a (.func f x y) m).run P w = stored P w a (.func f x y) m := run_store P w a _ m rfl
attribute [local go_sem] run_store_fn
theorem info9 : (Ybaf.prog.info? 9).map (fun i => (i.zero, i.size, i.bytes)) = some (some (.string ⟨#[]⟩), 1, 16) := by kernel_rfl
theorem make47_1 (w : World) : (Instr.makeSlice 47 (.int .i64 1) (.int .i64 1)).run Ybaf.prog w = .ok (.slice (some ⟨w.heap.size, 0, none⟩) 1 1) (w.alloc (.cells #[.string ⟨#[]⟩] 9)) :=
  make_one Ybaf.underlying47 info9 rfl 1 (by omega) (by omega) w

set_option maxHeartbeats 2000000 in
set_option maxRecDepth 100000 in
theorem lic_any (i x : ByteArray) (w : World) (hi0 : i ≠ noStr) :
    Calls Ybaf.prog 30 #[.agg #[.int .i64 0, .string i, .string x, .slice none 0 0]] w fun e w' => ∃ g cap, e = .returned (.slice (some ⟨g, 0, none⟩) 1 cap) ∧ w'.cell? ⟨g, 0, none⟩ = some (.int .i64 0) ∧ w'.cell? ⟨g, 1, none⟩ = some (.string i) ∧ w'.cell? ⟨g, 2, none⟩ = some (.string x) ∧ w'.cell? ⟨g, 3, none⟩ = some (.slice none 0 0) ∧ w.heap.size ≤ g ∧ Below w.heap.size w w' := by
  go_enter Ybaf.func30, Ybaf.ntmps30
  go_wp2_with (go_at_call 38; refine (lic1_any i x (w.heap.size + 1) _ _ hi0 ?_).mono ?_)
  · exact blk_alloc (blk_at (by simp)) _
  rintro e w1 ⟨rfl, g, cap, l0, m0, m1, m2, m3, hg, hM⟩
  go_wp2_with fail
  go_ret
  simp only [World.size_alloc] at hg
  refine ⟨g, cap, rfl, m0, m1, m2, m3, by omega, ?_⟩
  exact ((below2 w _ _).alloc (by simp; omega) _).trans (hM.below (by simp; omega) (fun b e => by omega))
set_option maxHeartbeats 2000000 in
set_option maxRecDepth 100000 in
theorem ids_any (i x : ByteArray) (w : World) (hi0 : i ≠ noStr) :
    Calls Ybaf.prog 20 #[.agg #[.int .i64 0, .string i, .string x, .slice none 0 0]] w fun e w' => ∃ g, e = .returned (.slice (some ⟨g, 0, none⟩) 1 1) ∧ w'.cell? ⟨g, 0, none⟩ = some (.string i) ∧ w.heap.size ≤ g ∧ Below w.heap.size w w' := by
  have m47 := make47_1
  go_enter Ybaf.func20, Ybaf.ntmps20
  go_wp2_with (go_at_call 30; refine (lic_any i x _ hi0).mono ?_)
  rintro e w1 ⟨g, cap, rfl, m0, m1, m2, m3, hg, hb1⟩
  have hgl := World.block_lt_of_cell? w1 _ m0
  go_wp2_with fail
  have n0 : (w1.alloc (.cells #[.string ⟨#[]⟩] 9)).cell? ⟨g, 0, none⟩ = some (.int .i64 0) := by rw [World.cell?_alloc_lt _ _ _ (by exact hgl)]; exact m0
  have n1 : (w1.alloc (.cells #[.string ⟨#[]⟩] 9)).cell? ⟨g, 1, none⟩ = some (.string i) := by rw [World.cell?_alloc_lt _ _ _ (by exact hgl)]; exact m1
  have n2 : (w1.alloc (.cells #[.string ⟨#[]⟩] 9)).cell? ⟨g, 2, none⟩ = some (.string x) := by rw [World.cell?_alloc_lt _ _ _ (by exact hgl)]; exact m2
  have n3 : (w1.alloc (.cells #[.string ⟨#[]⟩] 9)).cell? ⟨g, 3, none⟩ = some (.slice none 0 0) := by rw [World.cell?_alloc_lt _ _ _ (by exact hgl)]; exact m3
  have hb2 : Below w.heap.size w (w1.alloc (.cells #[.string ⟨#[]⟩] 9)) := (((Below.refl _ w).alloc (Nat.le_refl _) _).trans (hb1.mono (by simp))).alloc (by have := hb1.size; simp at this; omega) _
  have hq : (w1.alloc (.cells #[.string ⟨#[]⟩] 9)).heap[w1.heap.size]? = some (.cells #[.string ⟨#[]⟩] 9) := blk_new _ _
  have hsz : w.heap.size ≤ w1.heap.size := by have := hb1.size; simp at this; omega
  obtain ⟨z, hz⟩ : ∃ z, z = w1.heap.size := ⟨_, rfl⟩
  generalize w1.alloc (.cells #[.string ⟨#[]⟩] 9) = X0 at *
  rw [← hz] at hq hgl hsz ⊢
  clear hz
  go_loopw [14] (fun j y => (j = .int .i64 0 ∧ y = X0) ∨ (j = .int .i64 1 ∧ y.cell? ⟨z, 0, none⟩ = some (.string i) ∧ Below w.heap.size w y)) (fun j _ => 1 - (intOf j).toNat)
  case atStart => exact .inl ⟨rfl, rfl⟩
  case round =>
    rcases hrel with ⟨rfl, hy⟩ | ⟨rfl, hc, hby⟩
    · rw [hy]
      have d0 := blk_alloc hq (.cells #[.int .i64 0, .string i, .string x, .slice none 0 0] 31)
      have d1 : (X0.alloc (.cells #[.int .i64 0, .string i, .string x, .slice none 0 0] 31)).cell? ⟨z, 0, none⟩ = some (.string ⟨#[]⟩) := by rw [cell_of_row _ _ _ _ _ _ d0]; rfl
      have d2 : (X0.alloc (.cells #[.int .i64 0, .string i, .string x, .slice none 0 0] 31)).frozen? ⟨z, 0, none⟩ = false := frozen_of_row _ z 0 _ 9 d0
      go_wp2_with fail
      refine ⟨.inr ⟨rfl, ?_, ?_⟩, by simp [intOf]⟩
      · rw [cell_of_row _ _ _ _ _ _ (blk_same d0 0 _)]; rfl
      · exact (hb2.alloc hb2.size _).setCell hsz _
    · go_wp2_with fail
      go_ret
      exact ⟨z, rfl, hc, hsz, hby⟩
end Go.Proofs.YbulkexpecFmt
