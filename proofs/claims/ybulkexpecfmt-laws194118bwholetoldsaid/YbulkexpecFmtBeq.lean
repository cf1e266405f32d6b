/- LawS194118BWhole: zzs194118beq (8) of an expression and itself. -/
import Derived.Test.YbulkexpecFmtJoined
namespace Go.RegInv
/-- A region that draws, S held. -/
theorem wp_region_s {P : Program} {ops : Array Oper} {Q : Exit → Act → World → Prop} {S : World → Prop} {id : Nat} {a : Act} {w : World} (hm : P.follows .mixedOrders = true)
    (hS : S w.drew) (h : S w.drew → wpAnyH P .any ops Q S ops.size (Array.replicate ops.size false) a w.drew) : (Code.region id ops true).wp P Q a w :=
  wp_region_any hm (wpAny_of_held _ _ _ _ (h hS))
end Go.RegInv
namespace Go.Proofs.YbulkexpecFmt
open Go.RowKit Go.PK Go.Shelf Go.RegInv
set_option linter.unusedVariables false
set_option linter.unusedSimpArgs false

set_option maxHeartbeats 2000000 in
set_option maxRecDepth 100000 in
theorem beq_simple (i x : ByteArray) (w : World) : Calls Ybaf.prog 8 #[.agg #[.int .i64 0, .string i, .string x, .slice none 0 0], .agg #[.int .i64 0, .string i, .string x, .slice none 0 0]] w fun r w' => r = .returned (.bool true) ∧ w' = (w.alloc (.cells #[.int .i64 0, .string i, .string x, .slice none 0 0] 31)).alloc (.cells #[.int .i64 0, .string i, .string x, .slice none 0 0] 31) := by
  go_enter Ybaf.func8, Ybaf.ntmps8
  go_wp2_with fail
  go_loopw [37] (fun v y => v = .int .i64 0 ∧ y = (w.alloc (.cells #[.int .i64 0, .string i, .string x, .slice none 0 0] 31)).alloc (.cells #[.int .i64 0, .string i, .string x, .slice none 0 0] 31)) (fun _ _ => 0)
  case atStart => exact ⟨rfl, rfl⟩
  case round =>
    obtain ⟨rfl, hxw⟩ := hrel
    rw [hxw]
    go_wp2_with fail
    go_ret
    exact ⟨rfl, rfl⟩

set_option maxHeartbeats 4000000 in
set_option maxRecDepth 100000 in
theorem beq_and (es : List EX) (tg tg' cap cap' : Nat) (w : World) (h1 : TermsAt w tg es) (h2 : TermsAt w tg' es) (hl : es.length ≤ 9000) :
    Calls Ybaf.prog 8 #[.agg #[.int .i64 1, .string noStr, .string noStr, .slice (some ⟨tg, 0, none⟩) es.length cap], .agg #[.int .i64 1, .string noStr, .string noStr, .slice (some ⟨tg', 0, none⟩) es.length cap']] w fun r w' => Hid (r = .returned (.bool true) ∧ Moved w w' (fun _ => False)) := by
  obtain ⟨n, hn⟩ : ∃ n, n = es.length := ⟨_, rfl⟩
  have HN : Hid (n = es.length) := hn
  rw [← hn] at hl ⊢
  clear hn
  obtain ⟨W1, hW1⟩ : ∃ W1, W1 = (w.alloc (.cells #[.int .i64 1, .string noStr, .string noStr, .slice (some ⟨tg, 0, none⟩) n cap] 31)).alloc (.cells #[.int .i64 1, .string noStr, .string noStr, .slice (some ⟨tg', 0, none⟩) n cap'] 31) := ⟨_, rfl⟩
  have g0 : W1.heap[w.heap.size]? = some (.cells #[.int .i64 1, .string noStr, .string noStr, .slice (some ⟨tg, 0, none⟩) n cap] 31) := by rw [hW1]; exact blk_alloc (blk_new _ _) _
  have g1 : W1.heap[w.heap.size + 1]? = some (.cells #[.int .i64 1, .string noStr, .string noStr, .slice (some ⟨tg', 0, none⟩) n cap'] 31) := by rw [hW1]; exact blk_at (by simp)
  have hm1 : Moved w W1 (fun _ => False) := by rw [hW1]; exact (Moved.alloc w _ _).trans (Moved.alloc _ _ (fun _ => False)) (fun _ h => h.elim)
  have r0 : W1.cell? ⟨w.heap.size, 3, none⟩ = some (.slice (some ⟨tg, 0, none⟩) n cap) := by rw [cell_of_row _ _ _ _ _ _ g0]; rfl
  have r1 : W1.cell? ⟨w.heap.size + 1, 3, none⟩ = some (.slice (some ⟨tg', 0, none⟩) n cap') := by rw [cell_of_row _ _ _ _ _ _ g1]; rfl
  clear g0 g1
  go_enter Ybaf.func8, Ybaf.ntmps8
  go_wp2_with fail
  rw [← hW1]
  clear hW1
  generalize w.heap.size + 1 = A' at *
  generalize w.heap.size = A at *
  go_loopw [37] (fun v y => Hid (∃ j : Nat, j ≤ n ∧ v = .int .i64 (j : Int) ∧ Moved w y (fun _ => False) ∧ Moved W1 y (fun _ => False))) (fun v _ => n - (intOf v).toNat)
  case atStart => exact ⟨0, by omega, rfl, hm1, Moved.refl _ _⟩
  case round =>
    obtain ⟨j, hj, rfl, hmv, hmv1⟩ := hrel.out
    clear hrel
    by_cases hlt : j < n
    · obtain ⟨a0, a1, a2, a3⟩ := h1 j (by rw [← HN.out]; exact hlt)
      obtain ⟨b0, b1, b2, b3⟩ := h2 j (by rw [← HN.out]; exact hlt)
      generalize hei : (es[j]'(by rw [← HN.out]; exact hlt)).1 = ei at *
      generalize hex : (es[j]'(by rw [← HN.out]; exact hlt)).2 = ex at *
      have p0 := hmv.cell a0 (fun h => h)
      have p1 := hmv.cell a1 (fun h => h)
      have p2 := hmv.cell a2 (fun h => h)
      have p3 := hmv.cell a3 (fun h => h)
      have p4 := hmv.cell b0 (fun h => h)
      have p5 := hmv.cell b1 (fun h => h)
      have p6 := hmv.cell b2 (fun h => h)
      have p7 := hmv.cell b3 (fun h => h)
      have q0 := hmv1.cell r0 (fun h => h)
      have q1 := hmv1.cell r1 (fun h => h)
      clear a0 a1 a2 a3 b0 b1 b2 b3
      go_upto_region 6 with fail
      refine wp_region_s (S := fun w' => w'.cell? ⟨A, 3, none⟩ = some (.slice (some ⟨tg, 0, none⟩) n cap) ∧ w'.cell? ⟨A', 3, none⟩ = some (.slice (some ⟨tg', 0, none⟩) n cap') ∧ w'.cell? ⟨tg, j * 4, none⟩ = some (.int .i64 0) ∧ w'.cell? ⟨tg, j * 4 + 1, none⟩ = some (.string ei) ∧ w'.cell? ⟨tg, j * 4 + 2, none⟩ = some (.string ex) ∧ w'.cell? ⟨tg, j * 4 + 3, none⟩ = some (.slice none 0 0) ∧ w'.cell? ⟨tg', j * 4, none⟩ = some (.int .i64 0) ∧ w'.cell? ⟨tg', j * 4 + 1, none⟩ = some (.string ei) ∧ w'.cell? ⟨tg', j * 4 + 2, none⟩ = some (.string ex) ∧ w'.cell? ⟨tg', j * 4 + 3, none⟩ = some (.slice none 0 0)) (by kernel_rfl) ⟨q0, q1, p0, p1, p2, p3, p4, p5, p6, p7⟩ (fun hS => ?_)
      refine wpAnyH_take (i := 0) (v := .pointer (some ⟨A, 3, none⟩)) rfl (by kernel_rfl) (by kernel_rfl) (by kernel_rfl) (fun _ _ _ h => h) (Or.inl ⟨by rfl, fun W hW => ?_⟩) hS ?_
      · obtain ⟨s0, s1, s2, s3, s4, s5, s6, s7, s8, s9⟩ := hW
        go_simp
      try simp only [Act.put, List.setIfInBounds_toArray, List.set_cons_zero, List.set_cons_succ]
      refine wpAnyH_take (i := 1) (v := .slice (some ⟨tg, 0, none⟩) n cap) rfl (by kernel_rfl) (by kernel_rfl) (by kernel_rfl) (fun _ _ _ h => h) (Or.inl ⟨by rfl, fun W hW => ?_⟩) hS ?_
      · obtain ⟨s0, s1, s2, s3, s4, s5, s6, s7, s8, s9⟩ := hW
        go_simp
      try simp only [Act.put, List.setIfInBounds_toArray, List.set_cons_zero, List.set_cons_succ]
      refine wpAnyH_take (i := 2) (v := .int .i64 (j : Int)) rfl (by kernel_rfl) (by kernel_rfl) (by kernel_rfl) (fun _ _ _ h => h) (Or.inl ⟨by rfl, fun W hW => ?_⟩) hS ?_
      · obtain ⟨s0, s1, s2, s3, s4, s5, s6, s7, s8, s9⟩ := hW
        go_simp
      try simp only [Act.put, List.setIfInBounds_toArray, List.set_cons_zero, List.set_cons_succ]
      refine wpAnyH_take (i := 3) (v := .pointer (some ⟨tg, j * 4, none⟩)) rfl (by kernel_rfl) (by kernel_rfl) (by kernel_rfl) (fun _ _ _ h => h) (Or.inl ⟨by rfl, fun W hW => ?_⟩) hS ?_
      · obtain ⟨s0, s1, s2, s3, s4, s5, s6, s7, s8, s9⟩ := hW
        go_simp
      try simp only [Act.put, List.setIfInBounds_toArray, List.set_cons_zero, List.set_cons_succ]
      refine wpAnyH_take (i := 4) (v := .agg #[.int .i64 0, .string ei, .string ex, .slice none 0 0]) rfl (by kernel_rfl) (by kernel_rfl) (by kernel_rfl) (fun _ _ _ h => h) (Or.inl ⟨by rfl, fun W hW => ?_⟩) hS ?_
      · obtain ⟨s0, s1, s2, s3, s4, s5, s6, s7, s8, s9⟩ := hW
        go_simp
      try simp only [Act.put, List.setIfInBounds_toArray, List.set_cons_zero, List.set_cons_succ]
      refine wpAnyH_take (i := 5) (v := .pointer (some ⟨A', 3, none⟩)) rfl (by kernel_rfl) (by kernel_rfl) (by kernel_rfl) (fun _ _ _ h => h) (Or.inl ⟨by rfl, fun W hW => ?_⟩) hS ?_
      · obtain ⟨s0, s1, s2, s3, s4, s5, s6, s7, s8, s9⟩ := hW
        go_simp
      try simp only [Act.put, List.setIfInBounds_toArray, List.set_cons_zero, List.set_cons_succ]
      refine wpAnyH_take (i := 6) (v := .slice (some ⟨tg', 0, none⟩) n cap') rfl (by kernel_rfl) (by kernel_rfl) (by kernel_rfl) (fun _ _ _ h => h) (Or.inl ⟨by rfl, fun W hW => ?_⟩) hS ?_
      · obtain ⟨s0, s1, s2, s3, s4, s5, s6, s7, s8, s9⟩ := hW
        go_simp
      try simp only [Act.put, List.setIfInBounds_toArray, List.set_cons_zero, List.set_cons_succ]
      refine wpAnyH_take (i := 7) (v := .int .i64 (j : Int)) rfl (by kernel_rfl) (by kernel_rfl) (by kernel_rfl) (fun _ _ _ h => h) (Or.inl ⟨by rfl, fun W hW => ?_⟩) hS ?_
      · obtain ⟨s0, s1, s2, s3, s4, s5, s6, s7, s8, s9⟩ := hW
        go_simp
      try simp only [Act.put, List.setIfInBounds_toArray, List.set_cons_zero, List.set_cons_succ]
      refine wpAnyH_take (i := 8) (v := .pointer (some ⟨tg', j * 4, none⟩)) rfl (by kernel_rfl) (by kernel_rfl) (by kernel_rfl) (fun _ _ _ h => h) (Or.inl ⟨by rfl, fun W hW => ?_⟩) hS ?_
      · obtain ⟨s0, s1, s2, s3, s4, s5, s6, s7, s8, s9⟩ := hW
        go_simp
      try simp only [Act.put, List.setIfInBounds_toArray, List.set_cons_zero, List.set_cons_succ]
      refine wpAnyH_take (i := 9) (v := .agg #[.int .i64 0, .string ei, .string ex, .slice none 0 0]) rfl (by kernel_rfl) (by kernel_rfl) (by kernel_rfl) (fun _ _ _ h => h) (Or.inl ⟨by rfl, fun W hW => ?_⟩) hS ?_
      · obtain ⟨s0, s1, s2, s3, s4, s5, s6, s7, s8, s9⟩ := hW
        go_simp
      try simp only [Act.put, List.setIfInBounds_toArray, List.set_cons_zero, List.set_cons_succ]
      refine wpAnyH_ready (rs := [10]) (by kernel_rfl) (by simp) (AllReadyH.cons rfl (fun K hK => ?_) AllReadyH.nil)
      rw [if_pos (by rfl)]
      go_simp
      refine (beq_simple ei ex _).mono ?_
      rintro r W6 ⟨rfl, hW6⟩
      have hm6 : Moved wr W6 (fun _ => False) := by rw [hW6]; exact (((Moved.refl wr (fun _ => False)).drew.trans (Moved.alloc _ _ (fun _ => False)) (fun _ h => h.elim)).trans (Moved.alloc _ _ (fun _ => False)) (fun _ h => h.elim))
      clear hW6
      refine hK.out _ _ ⟨hm6.cell q0 (fun h => h), hm6.cell q1 (fun h => h), hm6.cell p0 (fun h => h), hm6.cell p1 (fun h => h), hm6.cell p2 (fun h => h), hm6.cell p3 (fun h => h), hm6.cell p4 (fun h => h), hm6.cell p5 (fun h => h), hm6.cell p6 (fun h => h), hm6.cell p7 (fun h => h)⟩ (fun hS => ?_)
      clear hK K
      try simp only [Act.put, List.setIfInBounds_toArray, List.set_cons_zero, List.set_cons_succ]
      refine wpAnyH_take (i := 11) (v := .bool false) rfl (by kernel_rfl) (by kernel_rfl) (by kernel_rfl) (fun _ _ _ h => h) (Or.inl ⟨by rfl, fun W hW => ?_⟩) hS ?_
      · obtain ⟨s0, s1, s2, s3, s4, s5, s6, s7, s8, s9⟩ := hW
        go_simp
      try simp only [Act.put, List.setIfInBounds_toArray, List.set_cons_zero, List.set_cons_succ]
      refine wpAnyH_done (by kernel_rfl) ?_ _
      have hm7 : Moved w W6 (fun _ => False) := hmv.trans hm6 (fun _ h => h.elim)
      have hm6' := hm6
      clear hS hm6
      go_simp
      go_wp2_with fail
      exact ⟨⟨j + 1, by omega, by simp, hm7, hmv1.trans hm6' (fun _ h => h.elim)⟩, by simp [intOf]; omega⟩
    · have hjn : j = n := by omega
      subst hjn
      go_wp2_with fail
      go_ret
      exact ⟨rfl, hmv⟩

/-- An expression and itself. -/
theorem beq_self (x : XE) (a b c d a' b' c' d' : Value) (w : World) (h1 : XAt w a b c d x) (h2 : XAt w a' b' c' d' x) (hl : (flat x).length ≤ 9000) :
    Calls Ybaf.prog 8 #[.agg #[a, b, c, d], .agg #[a', b', c', d']] w fun r w' => Hid (r = .returned (.bool true) ∧ Moved w w' (fun _ => False)) := by
  cases x with
  | inl e =>
    obtain ⟨rfl, rfl, rfl, rfl⟩ := h1
    obtain ⟨rfl, rfl, rfl, rfl⟩ := h2
    exact (beq_simple _ _ w).mono fun r w' ⟨q1, q2⟩ => ⟨q1, by rw [q2]; exact (Moved.alloc w _ _).trans (Moved.alloc _ _ (fun _ => False)) (fun _ h => h.elim)⟩
  | inr es =>
    obtain ⟨rfl, rfl, rfl, _, tg, cap, M, rfl, k1, _⟩ := h1
    obtain ⟨rfl, rfl, rfl, _, tg', cap', M', rfl, k2, _⟩ := h2
    exact beq_and es tg tg' cap cap' w k1 k2 hl
end Go.Proofs.YbulkexpecFmt
