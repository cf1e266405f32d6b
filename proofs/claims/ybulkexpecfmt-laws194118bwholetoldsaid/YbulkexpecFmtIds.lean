/- LawS194118BWhole: Licenses (30, 38), IDs (20) at a simple expression with an id. -/
import Derived.Test.YbulkexpecFmtStr
import Derived.Test.YbulkexpecFmtApp
namespace Go.Proofs.YbulkexpecFmt
open Go.RowKit Go.PK
set_option linter.unusedVariables false

set_option maxRecDepth 100000 in
theorem idx55_nil (f : Value) (w : World) : Calls Ybaf.prog 55 #[.slice none 0 0, f] w fun e w' => e = .returned (.int .i64 (-1)) ∧ w' = w := by
  go_enter Ybaf.func55, Ybaf.ntmps55
  go_wp2_with fail
  go_loopw [8] (fun i x => i = .int .i64 0 ∧ x = w) (fun _ _ => 0)
  case atStart => exact ⟨rfl, rfl⟩
  case round =>
    obtain ⟨rfl, hxw⟩ := hrel
    rw [hxw]
    go_wp2_with fail
    go_ret
    exact ⟨rfl, rfl⟩
theorem cont39_nil (f : Value) (w : World) : Calls Ybaf.prog 39 #[.slice none 0 0, f] w fun e w' => e = .returned (.bool false) ∧ w' = w := by
  go_enter Ybaf.func39, Ybaf.ntmps39
  go_wp2_with (go_at_call 55; refine (idx55_nil _ _).mono ?_; rintro e w' ⟨rfl, rfl⟩)
  go_ret
  exact ⟨rfl, rfl⟩
theorem info31 : (Ybaf.prog.info? 31).map (fun i => (i.zero, i.size, i.bytes)) = some (some (.agg #[.int .i64 0, .string ⟨#[]⟩, .string ⟨#[]⟩, .slice none 0 0]), 4, 64) := by kernel_rfl

theorem row4 {w : World} {B e g n cap : Nat} {a b c d : Value} {xs : List Value} (h : w.ownsRow B e 4 (.slice (some ⟨g, 0, none⟩) n cap) n (a :: b :: c :: d :: xs)) :
    B ≤ g ∧ w.cell? ⟨g, 0, none⟩ = some a ∧ w.cell? ⟨g, 1, none⟩ = some b ∧ w.cell? ⟨g, 2, none⟩ = some c ∧ w.cell? ⟨g, 3, none⟩ = some d ∧ (∀ j, w.frozen? ⟨g, j, none⟩ = false) ∧ ∃ cur, w.heap[g]? = some (.cells cur e) ∧ cur.toList.take (n * 4) = a :: b :: c :: d :: xs := by
  obtain ⟨cur, hg, hbg, hnc, hcm, hcs, htk⟩ := own_blk h
  have at_ : ∀ j v, (a :: b :: c :: d :: xs)[j]? = some v → w.cell? ⟨g, j, none⟩ = some v := by
    intro j v hv
    rw [cell_of_row _ _ _ _ _ _ hg]
    rw [← htk, List.getElem?_take] at hv
    split at hv
    · simpa using hv
    · cases hv
  exact ⟨hbg, at_ 0 _ rfl, at_ 1 _ rfl, at_ 2 _ rfl, at_ 3 _ rfl, fun j => frozen_of_row w g j _ e hg, cur, hg, htk⟩

section
variable {w w1 : World} {g lb : Nat} {a b c d s u0 u1 u2 u3 ul : Value}
theorem lic_fin1 (gl : g ≠ lb) (hg : w.heap.size ≤ g) (m0 : w1.cell? ⟨g, 0, none⟩ = some u0) (m1 : w1.cell? ⟨g, 1, none⟩ = some u1) (m2 : w1.cell? ⟨g, 2, none⟩ = some u2) (m3 : w1.cell? ⟨g, 3, none⟩ = some u3) (lc : w1.cell? ⟨lb, 0, none⟩ = some ul) (hM : Moved w w1 (fun b => b = lb)) :
    (((((w1.setCell ⟨g, 0, none⟩ a).setCell ⟨g, 1, none⟩ b).setCell ⟨g, 2, none⟩ c).setCell ⟨g, 3, none⟩ d).setCell ⟨lb, 0, none⟩ s).cell? ⟨lb, 0, none⟩ = some s ∧
    (((((w1.setCell ⟨g, 0, none⟩ a).setCell ⟨g, 1, none⟩ b).setCell ⟨g, 2, none⟩ c).setCell ⟨g, 3, none⟩ d).setCell ⟨lb, 0, none⟩ s).cell? ⟨g, 0, none⟩ = some a ∧
    (((((w1.setCell ⟨g, 0, none⟩ a).setCell ⟨g, 1, none⟩ b).setCell ⟨g, 2, none⟩ c).setCell ⟨g, 3, none⟩ d).setCell ⟨lb, 0, none⟩ s).cell? ⟨g, 1, none⟩ = some b ∧
    (((((w1.setCell ⟨g, 0, none⟩ a).setCell ⟨g, 1, none⟩ b).setCell ⟨g, 2, none⟩ c).setCell ⟨g, 3, none⟩ d).setCell ⟨lb, 0, none⟩ s).cell? ⟨g, 2, none⟩ = some c ∧
    (((((w1.setCell ⟨g, 0, none⟩ a).setCell ⟨g, 1, none⟩ b).setCell ⟨g, 2, none⟩ c).setCell ⟨g, 3, none⟩ d).setCell ⟨lb, 0, none⟩ s).cell? ⟨g, 3, none⟩ = some d ∧ w.heap.size ≤ g ∧
    Moved w (((((w1.setCell ⟨g, 0, none⟩ a).setCell ⟨g, 1, none⟩ b).setCell ⟨g, 2, none⟩ c).setCell ⟨g, 3, none⟩ d).setCell ⟨lb, 0, none⟩ s) (fun b => b = lb) := by
  have s1 : ∀ (W : World) (j : Nat) (v : Value), Moved w W (fun b => b = lb) → Moved w (W.setCell ⟨g, j, none⟩ v) (fun b => b = lb) := fun W j v h => h.trans (Moved.setCell W _ v) (fun i hi => .inr (by have : i = g := hi; omega))
  have s2 : ∀ (W : World) (v : Value), Moved w W (fun b => b = lb) → Moved w (W.setCell ⟨lb, 0, none⟩ v) (fun b => b = lb) := fun W v h => h.trans (Moved.setCell W _ v) (fun i hi => .inl hi)
  refine ⟨?_, ?_, ?_, ?_, ?_, hg, s2 _ _ (s1 _ _ _ (s1 _ _ _ (s1 _ _ _ (s1 _ _ _ hM))))⟩
  all_goals simp_all [go_sem]
theorem lic_fin2 (gl : g ≠ lb) (hg : w.heap.size ≤ g) (m0 : w1.cell? ⟨g, 0, none⟩ = some u0) (m1 : w1.cell? ⟨g, 1, none⟩ = some u1) (m2 : w1.cell? ⟨g, 2, none⟩ = some u2) (m3 : w1.cell? ⟨g, 3, none⟩ = some u3) (lc : w1.cell? ⟨lb, 0, none⟩ = some ul) (hM : Moved w w1 (fun b => b = lb)) :
    (((((w1.setCell ⟨lb, 0, none⟩ s).setCell ⟨g, 0, none⟩ a).setCell ⟨g, 1, none⟩ b).setCell ⟨g, 2, none⟩ c).setCell ⟨g, 3, none⟩ d).cell? ⟨lb, 0, none⟩ = some s ∧
    (((((w1.setCell ⟨lb, 0, none⟩ s).setCell ⟨g, 0, none⟩ a).setCell ⟨g, 1, none⟩ b).setCell ⟨g, 2, none⟩ c).setCell ⟨g, 3, none⟩ d).cell? ⟨g, 0, none⟩ = some a ∧
    (((((w1.setCell ⟨lb, 0, none⟩ s).setCell ⟨g, 0, none⟩ a).setCell ⟨g, 1, none⟩ b).setCell ⟨g, 2, none⟩ c).setCell ⟨g, 3, none⟩ d).cell? ⟨g, 1, none⟩ = some b ∧
    (((((w1.setCell ⟨lb, 0, none⟩ s).setCell ⟨g, 0, none⟩ a).setCell ⟨g, 1, none⟩ b).setCell ⟨g, 2, none⟩ c).setCell ⟨g, 3, none⟩ d).cell? ⟨g, 2, none⟩ = some c ∧
    (((((w1.setCell ⟨lb, 0, none⟩ s).setCell ⟨g, 0, none⟩ a).setCell ⟨g, 1, none⟩ b).setCell ⟨g, 2, none⟩ c).setCell ⟨g, 3, none⟩ d).cell? ⟨g, 3, none⟩ = some d ∧ w.heap.size ≤ g ∧
    Moved w (((((w1.setCell ⟨lb, 0, none⟩ s).setCell ⟨g, 0, none⟩ a).setCell ⟨g, 1, none⟩ b).setCell ⟨g, 2, none⟩ c).setCell ⟨g, 3, none⟩ d) (fun b => b = lb) := by
  have s1 : ∀ (W : World) (j : Nat) (v : Value), Moved w W (fun b => b = lb) → Moved w (W.setCell ⟨g, j, none⟩ v) (fun b => b = lb) := fun W j v h => h.trans (Moved.setCell W _ v) (fun i hi => .inr (by have : i = g := hi; omega))
  have s2 : ∀ (W : World) (v : Value), Moved w W (fun b => b = lb) → Moved w (W.setCell ⟨lb, 0, none⟩ v) (fun b => b = lb) := fun W v h => h.trans (Moved.setCell W _ v) (fun i hi => .inl hi)
  refine ⟨?_, ?_, ?_, ?_, ?_, hg, s1 _ _ _ (s1 _ _ _ (s1 _ _ _ (s1 _ _ _ (s2 _ _ hM))))⟩
  all_goals simp_all [go_sem]
end

set_option maxHeartbeats 4000000 in
set_option maxRecDepth 100000 in
theorem lic1_any (i x : ByteArray) (lb ab : Nat) (w : World) (hi0 : i ≠ noStr) (h : w.heap[lb]? = some (.cells #[.slice none 0 0] 29)) :
    Calls Ybaf.prog 38 #[.agg #[.int .i64 0, .string i, .string x, .slice none 0 0], .pointer (some ⟨ab, 0, none⟩), .pointer (some ⟨lb, 0, none⟩)] w fun e w' => e = .returned (.tuple #[]) ∧
      ∃ g cap, w'.cell? ⟨lb, 0, none⟩ = some (.slice (some ⟨g, 0, none⟩) 1 cap) ∧ w'.cell? ⟨g, 0, none⟩ = some (.int .i64 0) ∧ w'.cell? ⟨g, 1, none⟩ = some (.string i) ∧ w'.cell? ⟨g, 2, none⟩ = some (.string x) ∧ w'.cell? ⟨g, 3, none⟩ = some (.slice none 0 0) ∧ w.heap.size ≤ g ∧ Moved w w' (fun b => b = lb) := by
  have q0 := em_f hi0
  have hlt := blk_lt h
  have c0 : w.cell? ⟨lb, 0, none⟩ = some (.slice none 0 0) := by rw [cell_of_row _ _ _ _ _ _ h]; rfl
  have hb := fun o => blk_alloc h o
  go_enter Ybaf.func38, Ybaf.ntmps38
  have c1 : (w.alloc (.cells (sx i x) 31)).cell? ⟨lb, 0, none⟩ = some (.slice none 0 0) := by rw [cell_of_row _ _ _ _ _ _ (hb _)]; rfl
  unfold sx at c1
  go_wp2_with (go_at_call 39; refine (cont39_nil _ _).mono ?_; rintro e w' ⟨rfl, rfl⟩)
  have hown : ∀ W : World, W.ownsRow w.heap.size 31 4 (.slice none 0 0) 0 [] := fun W => World.ownsRow_nil _ _ _ _
  go_region_law (refine step_appk rfl _ _ 29 rfl w.heap.size 31 _ 4 64 Ybaf.underlying29 info31 rfl (by omega) (.slice none 0 0) 0 [] rfl (hown _) _ _ [.int .i64 0, .string ⟨#[]⟩, .string ⟨#[]⟩, .slice none 0 0] rfl rfl ?_ (by simp [Value.oneCell']) ?_ ?_ ?_ ?_; (focus exact cells_of_block (cs := #[.int .i64 0, .string ⟨#[]⟩, .string ⟨#[]⟩, .slice none 0 0]) (t := 31) (blk_at (by simp))); (focus unfold maxLen; omega); (focus omega); (focus simp; omega); intro g' cap' w1 hown1 hgrow1 _; obtain ⟨hgB, m0, m1, m2, m3, mf, cur, hg, htk⟩ := row4 hown1; have b0 : w1.heap[w.heap.size]? = some (.cells #[.int .i64 0, .string i, .string x, .slice none 0 0] 31) := (by rw [hgrow1.block w.heap.size (by simp; omega) (by simp [Value.ownBlock])]; exact blk_alloc (blk_new w _) _); have l0 : w1.heap[lb]? = some (.cells #[.slice none 0 0] 29) := (by rw [hgrow1.block lb (by simp; omega) (by simp [Value.ownBlock])]; exact blk_alloc (hb _) _); have lc : w1.cell? ⟨lb, 0, none⟩ = some (.slice none 0 0) := (by rw [cell_of_row _ _ _ _ _ _ l0]; rfl); have lf : w1.frozen? ⟨lb, 0, none⟩ = false := frozen_of_row _ lb 0 _ 29 l0; have b1 : w1.cell? ⟨w.heap.size, 0, none⟩ = some (.int .i64 0) := (by rw [cell_of_row _ _ _ _ _ _ b0]; rfl); have b2 : w1.cell? ⟨w.heap.size, 1, none⟩ = some (.string i) := (by rw [cell_of_row _ _ _ _ _ _ b0]; rfl); have b3 : w1.cell? ⟨w.heap.size, 2, none⟩ = some (.string x) := (by rw [cell_of_row _ _ _ _ _ _ b0]; rfl); have b4 : w1.cell? ⟨w.heap.size, 3, none⟩ = some (.slice none 0 0) := (by rw [cell_of_row _ _ _ _ _ _ b0]; rfl); have gl : g' ≠ lb := (by omega))
  all_goals go_end0
  all_goals have hM : Moved w w1 (fun b => b = lb) := (((Moved.alloc w _ _).trans (Moved.alloc _ _ (fun b => b = lb)) (fun i hi => .inl hi)).drew).trans (Moved.of_grown hgrow1) (fun i hi => by simp [Value.ownBlock] at hi)
  all_goals refine ⟨rfl, g', cap', ?_⟩
  all_goals first
    | with_reducible exact lic_fin1 gl hgB m0 m1 m2 m3 lc hM
    | with_reducible exact lic_fin2 gl hgB m0 m1 m2 m3 lc hM
end Go.Proofs.YbulkexpecFmt
