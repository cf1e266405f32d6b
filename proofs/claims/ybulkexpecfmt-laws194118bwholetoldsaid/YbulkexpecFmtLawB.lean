/- LawS194118BWhole: the law (3). -/
import Derived.Test.YbulkexpecFmtLawK
import Derived.Deep.DeepCutAuto
import Derived.Deep.CutBlock
namespace Go.Proofs.YbulkexpecFmt
open Go.RowKit Go.PK Go.Shelf Go.RegInv
set_option linter.unusedVariables false
set_option linter.unusedSimpArgs false

/-- Where the group of tag k stands. -/
def GInv (T : Nat → IT) (n k : Nat) (Y0 : World) (v j : Value) (y : World) : Prop := ∃ (q g cg : Nat), k + 1 ≤ q ∧ q ≤ n ∧ j = .int .i64 (q : Int) ∧ v = .slice (some ⟨g, 0, none⟩) (gr T q k).length cg ∧ TRow y Y0.heap.size (.slice (some ⟨g, 0, none⟩) (gr T q k).length cg) (gr T q k) ∧ Moved Y0 y (fun _ => False)

set_option maxHeartbeats 16000000 in
set_option maxRecDepth 100000 in
theorem law_any (p : Option Addr) (n cap : Nat) (T : Nat → IT) (w : World) (hp : Inn p n cap) (hin : InAt w p n T) (hn : n ≤ 4096) :
    Calls Ybaf.prog 3 #[.slice p n cap] w fun r w' => Hid (r = .returned (.bool true) ∧ Moved w w' (fun _ => False)) := by
  have hn' : ¬ ((4096 : Int) < (n : Int)) := by omega
  have HP : Hid (Inn p n cap) := hp
  clear hp
  go_enter Ybaf.func3, Ybaf.ntmps3
  go_wp2_with (go_at_call 4; refine (build_any p n cap T _ HP.out hin hn).mono ?_)
  intro r W1 hq
  obtain ⟨sp, ⟨cp, rfl⟩, hsrc, hm1⟩ := hq.out
  clear hq
  go_wp2_with (go_at_call 5; refine (joined_any sp n cp T W1 hsrc hn).mono ?_)
  intro r W2 hq
  obtain ⟨jv, vs, ts, rfl, hJ, hrun, hm2⟩ := hq.out
  clear hq
  obtain ⟨ga, gc, hjv, hgf, hg0⟩ := hJ.forms
  subst hjv
  have HG : Hid ((0 < vs.length → ∃ g, ga = some ⟨g, 0, none⟩) ∧ (vs.length = 0 → ga = none)) := ⟨hgf, hg0⟩
  have HRun : Hid (JRun T n ts) := hrun
  have hm12 : Moved w W2 (fun _ => False) := hm1.trans hm2 (fun _ h => h.elim)
  have hin2 := hin.moved hm12
  have hsrc2 := hsrc.moved hm2
  clear hgf hg0 hrun hin hsrc hm1 hm2
  generalize W1.heap.size = B1 at *
  obtain ⟨B2, HB2⟩ : ∃ B2, Hid (B2 = W2.heap.size) := ⟨_, rfl⟩
  go_wp2_with fail
  go_loopw [5, 29] (fun v5 i y => Hid (∃ (k : Nat) (us : List TV) (xs : List TG), k ≤ n ∧ i = .int .i64 (k : Int) ∧ RowAt y B2 v5 us xs ∧ Want T n k xs ∧ Moved W2 y (fun _ => False))) (fun _ i _ => n - (intOf i).toNat)
  case atStart => exact ⟨0, [], [], by omega, rfl, ⟨World.ownsRow_nil _ _ _ _, rfl, fun j h => absurd h (by simp), fun _ => rfl⟩, Want.nil T n, Moved.refl _ _⟩
  case round =>
    obtain ⟨k, us, xs, hk, rfl, hR, hW, hmv⟩ := hrel.out
    clear hrel
    by_cases hlt : k < n
    · obtain ⟨b0, o0, hpe, hbl, q0, q1, q2, q3, q4, r1, r2⟩ := hin2.moved hmv k hlt
      subst hpe
      have hul : us.length ≤ 4096 := by rw [hR.len, hW.len]; have := ks_len T k; omega
      have hB2 : B2 ≤ wr.heap.size := by rw [HB2.out]; exact hmv.size
      generalize hT1 : (T k).s = ts1 at *
      generalize hT2 : (T k).e = te at *
      generalize hT3 : (T k).i = ti at *
      generalize hT4 : (T k).x = tx at *
      generalize hT5 : (T k).c = tc at *
      have HT : Hid ((T k).s = ts1 ∧ (T k).e = te ∧ (T k).ex = (idT ti, excT tx) ∧ (T k).c = tc) := ⟨hT1, hT2, by simp [IT.ex, hT3, hT4], hT5⟩
      clear hT1 hT2 hT3 hT4 hT5
      go_upto_if 38 with fail
      go_cut [8, 9] from 38 to 51 (fun _ _ y => Hid (kept T k = true ∧ y = wr))
      case first =>
        by_cases h0 : 0 < tc
        · have h0d : decide ((0 : Int) < tc) = true := decide_eq_true h0
          go_wp2_with fail
          go_loopw [8, 9] (fun b j y => Hid (∃ q : Nat, q ≤ k ∧ j = .int .i64 (q : Int) ∧ b = .bool (seenB T tc q) ∧ y = wr)) (fun _ j _ => k - (intOf j).toNat)
          case atStart => exact ⟨0, by omega, rfl, rfl, rfl⟩
          case round =>
            obtain ⟨q, hq, rfl, rfl, hy⟩ := hrel.out
            clear hrel
            subst hy
            by_cases hqk : q < k
            · obtain ⟨b, o, e1, _, _, _, _, _, c4, _, _⟩ := hin2.moved hmv q (by omega)
              obtain ⟨rfl, rfl⟩ : b0 = b ∧ o0 = o := by simpa using e1
              clear e1
              have hs : Hid (seenB T tc (q + 1) = (seenB T tc q || (T q).c == tc)) := rfl
              generalize (T q).c = qc at *
              by_cases hc : qc = tc
              · subst hc
                go_wp2_with fail
                exact ⟨⟨q + 1, by omega, by simp, by rw [hs.out]; simp, by trivial⟩, by simp [intOf]; omega⟩
              · have hcb : (qc == tc) = false := by simpa using hc
                go_wp2_with fail
                exact ⟨⟨q + 1, by omega, by simp, by rw [hs.out]; simp [hcb], by trivial⟩, by simp [intOf]; omega⟩
            · have hqe : k = q := by omega
              subst hqe
              cases hs : seenB T tc k with
              | true =>
                go_wp2_with fail
                exact ⟨⟨k + 1, us, xs, by omega, by simp, hR, hW.skip (by rw [kept_pos (by rw [HT.out.2.2.2]; exact h0), HT.out.2.2.2, hs]; rfl), hmv⟩, by simp [intOf]; omega⟩
              | false =>
                go_wp2_with fail
                go_meet
                exact ⟨by rw [kept_pos (by rw [HT.out.2.2.2]; exact h0), HT.out.2.2.2, hs]; rfl, rfl⟩
        · have h0d : decide ((0 : Int) < tc) = false := decide_eq_false h0
          go_wp2_with fail
          go_meet
          exact ⟨kept_neg (by have := HT.out.2.2.2; omega), rfl⟩
      case rest =>
        obtain ⟨hkept, hwc⟩ := hcut.out
        have hwc' := hwc.symm
        clear hcut hwc
        subst hwc'
        have h6 := fun (W : World) => expr_any (.int .i64 ts1) (.int .i64 te) ti tx (.int .i64 tc) W r1 r2
        go_upto_region 18 with fail
        go_cut [10] from 52 to 68 (fun v10 y => Hid (∃ t, v10 = .pointer (some ⟨t, 0, none⟩) ∧ y.heap[t]? = some (.cells #[.int .i64 ts1, .int .i64 te, .int .i64 0, .string (idT ti), .string (excT tx), .slice none 0 0, .int .i64 tc] 34) ∧ wr.heap.size ≤ t ∧ Moved wr y (fun _ => False)))
        case first =>
          have hkS : ∀ (W : World) (o : Obj), (W.cell? ⟨b0, o0 + k * 5, none⟩ = some (.int .i64 ts1) ∧ W.cell? ⟨b0, o0 + k * 5 + 1, none⟩ = some (.int .i64 te) ∧ W.cell? ⟨b0, o0 + k * 5 + 2, none⟩ = some (.int .u8 ti) ∧ W.cell? ⟨b0, o0 + k * 5 + 3, none⟩ = some (.int .u8 tx) ∧ W.cell? ⟨b0, o0 + k * 5 + 4, none⟩ = some (.int .i64 tc)) → ((W.alloc o).cell? ⟨b0, o0 + k * 5, none⟩ = some (.int .i64 ts1) ∧ (W.alloc o).cell? ⟨b0, o0 + k * 5 + 1, none⟩ = some (.int .i64 te) ∧ (W.alloc o).cell? ⟨b0, o0 + k * 5 + 2, none⟩ = some (.int .u8 ti) ∧ (W.alloc o).cell? ⟨b0, o0 + k * 5 + 3, none⟩ = some (.int .u8 tx) ∧ (W.alloc o).cell? ⟨b0, o0 + k * 5 + 4, none⟩ = some (.int .i64 tc)) := fun W o ⟨s0, s1, s2, s3, s4⟩ => ⟨by rw [World.cell?_alloc_lt _ _ _ (World.block_lt_of_cell? W _ s0)]; exact s0, by rw [World.cell?_alloc_lt _ _ _ (World.block_lt_of_cell? W _ s1)]; exact s1, by rw [World.cell?_alloc_lt _ _ _ (World.block_lt_of_cell? W _ s2)]; exact s2, by rw [World.cell?_alloc_lt _ _ _ (World.block_lt_of_cell? W _ s3)]; exact s3, by rw [World.cell?_alloc_lt _ _ _ (World.block_lt_of_cell? W _ s4)]; exact s4⟩
          refine wp_region_back (S := fun w' => w'.cell? ⟨b0, o0 + k * 5, none⟩ = some (.int .i64 ts1) ∧ w'.cell? ⟨b0, o0 + k * 5 + 1, none⟩ = some (.int .i64 te) ∧ w'.cell? ⟨b0, o0 + k * 5 + 2, none⟩ = some (.int .u8 ti) ∧ w'.cell? ⟨b0, o0 + k * 5 + 3, none⟩ = some (.int .u8 tx) ∧ w'.cell? ⟨b0, o0 + k * 5 + 4, none⟩ = some (.int .i64 tc)) (by kernel_rfl) rfl (by kernel_rfl) (by kernel_rfl) (by kernel_rfl) ⟨q0, q1, q2, q3, q4⟩ (fun hS => ?_)
          refine wpAnyH_take (i := 0) (v := .slice (some ⟨b0, o0, none⟩) n cap) rfl (by kernel_rfl) (by kernel_rfl) (by kernel_rfl) (fun _ _ _ h => h) (Or.inl ⟨by rfl, fun W hW => ?_⟩) hS ?_
          · obtain ⟨s0, s1, s2, s3, s4⟩ := hW
            go_simp
          try simp only [Act.put, List.setIfInBounds_toArray, List.set_cons_zero, List.set_cons_succ, List.getElem_toArray, List.getElem_cons_zero, List.getElem_cons_succ]
          refine wpAnyH_take (i := 1) (v := .int .i64 (k : Int)) rfl (by kernel_rfl) (by kernel_rfl) (by kernel_rfl) (fun _ _ _ h => h) (Or.inl ⟨by rfl, fun W hW => ?_⟩) hS ?_
          · obtain ⟨s0, s1, s2, s3, s4⟩ := hW
            go_simp
          try simp only [Act.put, List.setIfInBounds_toArray, List.set_cons_zero, List.set_cons_succ, List.getElem_toArray, List.getElem_cons_zero, List.getElem_cons_succ]
          refine wpAnyH_take (i := 2) (v := .pointer (some ⟨b0, o0 + k * 5, none⟩)) rfl (by kernel_rfl) (by kernel_rfl) (by kernel_rfl) (fun _ _ _ h => h) (Or.inl ⟨by rfl, fun W hW => ?_⟩) hS ?_
          · obtain ⟨s0, s1, s2, s3, s4⟩ := hW
            go_simp
          try simp only [Act.put, List.setIfInBounds_toArray, List.set_cons_zero, List.set_cons_succ, List.getElem_toArray, List.getElem_cons_zero, List.getElem_cons_succ]
          refine wpAnyH_take (i := 3) (v := .pointer (some ⟨b0, o0 + k * 5, none⟩)) rfl (by kernel_rfl) (by kernel_rfl) (by kernel_rfl) (fun _ _ _ h => h) (Or.inl ⟨by rfl, fun W hW => ?_⟩) hS ?_
          · obtain ⟨s0, s1, s2, s3, s4⟩ := hW
            go_simp
          try simp only [Act.put, List.setIfInBounds_toArray, List.set_cons_zero, List.set_cons_succ, List.getElem_toArray, List.getElem_cons_zero, List.getElem_cons_succ]
          refine wpAnyH_take (i := 4) (v := .int .i64 ts1) rfl (by kernel_rfl) (by kernel_rfl) (by kernel_rfl) (fun _ _ _ h => h) (Or.inl ⟨by rfl, fun W hW => ?_⟩) hS ?_
          · obtain ⟨s0, s1, s2, s3, s4⟩ := hW
            go_simp
          try simp only [Act.put, List.setIfInBounds_toArray, List.set_cons_zero, List.set_cons_succ, List.getElem_toArray, List.getElem_cons_zero, List.getElem_cons_succ]
          refine wpAnyH_take (i := 5) (v := .slice (some ⟨b0, o0, none⟩) n cap) rfl (by kernel_rfl) (by kernel_rfl) (by kernel_rfl) (fun _ _ _ h => h) (Or.inl ⟨by rfl, fun W hW => ?_⟩) hS ?_
          · obtain ⟨s0, s1, s2, s3, s4⟩ := hW
            go_simp
          try simp only [Act.put, List.setIfInBounds_toArray, List.set_cons_zero, List.set_cons_succ, List.getElem_toArray, List.getElem_cons_zero, List.getElem_cons_succ]
          refine wpAnyH_take (i := 6) (v := .int .i64 (k : Int)) rfl (by kernel_rfl) (by kernel_rfl) (by kernel_rfl) (fun _ _ _ h => h) (Or.inl ⟨by rfl, fun W hW => ?_⟩) hS ?_
          · obtain ⟨s0, s1, s2, s3, s4⟩ := hW
            go_simp
          try simp only [Act.put, List.setIfInBounds_toArray, List.set_cons_zero, List.set_cons_succ, List.getElem_toArray, List.getElem_cons_zero, List.getElem_cons_succ]
          refine wpAnyH_take (i := 7) (v := .pointer (some ⟨b0, o0 + k * 5, none⟩)) rfl (by kernel_rfl) (by kernel_rfl) (by kernel_rfl) (fun _ _ _ h => h) (Or.inl ⟨by rfl, fun W hW => ?_⟩) hS ?_
          · obtain ⟨s0, s1, s2, s3, s4⟩ := hW
            go_simp
          try simp only [Act.put, List.setIfInBounds_toArray, List.set_cons_zero, List.set_cons_succ, List.getElem_toArray, List.getElem_cons_zero, List.getElem_cons_succ]
          refine wpAnyH_take (i := 8) (v := .pointer (some ⟨b0, o0 + k * 5 + 1, none⟩)) rfl (by kernel_rfl) (by kernel_rfl) (by kernel_rfl) (fun _ _ _ h => h) (Or.inl ⟨by rfl, fun W hW => ?_⟩) hS ?_
          · obtain ⟨s0, s1, s2, s3, s4⟩ := hW
            go_simp
          try simp only [Act.put, List.setIfInBounds_toArray, List.set_cons_zero, List.set_cons_succ, List.getElem_toArray, List.getElem_cons_zero, List.getElem_cons_succ]
          refine wpAnyH_take (i := 9) (v := .int .i64 te) rfl (by kernel_rfl) (by kernel_rfl) (by kernel_rfl) (fun _ _ _ h => h) (Or.inl ⟨by rfl, fun W hW => ?_⟩) hS ?_
          · obtain ⟨s0, s1, s2, s3, s4⟩ := hW
            go_simp
          try simp only [Act.put, List.setIfInBounds_toArray, List.set_cons_zero, List.set_cons_succ, List.getElem_toArray, List.getElem_cons_zero, List.getElem_cons_succ]
          refine wpAnyH_take (i := 10) (v := .slice (some ⟨b0, o0, none⟩) n cap) rfl (by kernel_rfl) (by kernel_rfl) (by kernel_rfl) (fun _ _ _ h => h) (Or.inl ⟨by rfl, fun W hW => ?_⟩) hS ?_
          · obtain ⟨s0, s1, s2, s3, s4⟩ := hW
            go_simp
          try simp only [Act.put, List.setIfInBounds_toArray, List.set_cons_zero, List.set_cons_succ, List.getElem_toArray, List.getElem_cons_zero, List.getElem_cons_succ]
          refine wpAnyH_take (i := 11) (v := .int .i64 (k : Int)) rfl (by kernel_rfl) (by kernel_rfl) (by kernel_rfl) (fun _ _ _ h => h) (Or.inl ⟨by rfl, fun W hW => ?_⟩) hS ?_
          · obtain ⟨s0, s1, s2, s3, s4⟩ := hW
            go_simp
          try simp only [Act.put, List.setIfInBounds_toArray, List.set_cons_zero, List.set_cons_succ, List.getElem_toArray, List.getElem_cons_zero, List.getElem_cons_succ]
          refine wpAnyH_take (i := 12) (v := .pointer (some ⟨b0, o0 + k * 5, none⟩)) rfl (by kernel_rfl) (by kernel_rfl) (by kernel_rfl) (fun _ _ _ h => h) (Or.inl ⟨by rfl, fun W hW => ?_⟩) hS ?_
          · obtain ⟨s0, s1, s2, s3, s4⟩ := hW
            go_simp
          try simp only [Act.put, List.setIfInBounds_toArray, List.set_cons_zero, List.set_cons_succ, List.getElem_toArray, List.getElem_cons_zero, List.getElem_cons_succ]
          refine wpAnyH_take (i := 13) (v := .agg #[.int .i64 ts1, .int .i64 te, .int .u8 ti, .int .u8 tx, .int .i64 tc]) rfl (by kernel_rfl) (by kernel_rfl) (by kernel_rfl) (fun _ _ _ h => h) (Or.inl ⟨by rfl, fun W hW => ?_⟩) hS ?_
          · obtain ⟨s0, s1, s2, s3, s4⟩ := hW
            go_simp
          try simp only [Act.put, List.setIfInBounds_toArray, List.set_cons_zero, List.set_cons_succ, List.getElem_toArray, List.getElem_cons_zero, List.getElem_cons_succ]
          refine wpAnyH_take (i := 15) (v := .int .i64 tc) rfl (by kernel_rfl) (by kernel_rfl) (by kernel_rfl) (fun _ _ _ h => h) (Or.inl ⟨by rfl, fun W hW => ?_⟩) hS ?_
          · obtain ⟨s0, s1, s2, s3, s4⟩ := hW
            go_simp
          try simp only [Act.put, List.setIfInBounds_toArray, List.set_cons_zero, List.set_cons_succ, List.getElem_toArray, List.getElem_cons_zero, List.getElem_cons_succ]
          refine wpAnyH_ready (rs := [14, 17]) (by kernel_rfl) (by simp) (AllReadyH.cons rfl (fun K hK => ?_) (AllReadyH.cons rfl (fun K hK => ?_) AllReadyH.nil))
          · rw [if_pos (by rfl)]
            go_simp
            refine (h6 _).mono ?_
            rintro r W6 ⟨rfl, rfl⟩
            refine hK.out _ _ (hkS _ _ (hkS _ _ hS)) (fun hS => ?_)
            clear hK K
            try simp only [Act.put, List.setIfInBounds_toArray, List.set_cons_zero, List.set_cons_succ, List.getElem_toArray, List.getElem_cons_zero, List.getElem_cons_succ]
            refine wpAnyH_take (i := 16) (v := .agg #[.int .i64 ts1, .int .i64 te, .int .i64 0, .string (idT ti), .string (excT tx), .slice none 0 0, .int .i64 tc]) rfl (by kernel_rfl) (by kernel_rfl) (by kernel_rfl) (fun _ _ _ h => h) (Or.inl ⟨by rfl, fun W hW => ?_⟩) hS ?_
            · obtain ⟨s0, s1, s2, s3, s4⟩ := hW
              go_simp
            try simp only [Act.put, List.setIfInBounds_toArray, List.set_cons_zero, List.set_cons_succ, List.getElem_toArray, List.getElem_cons_zero, List.getElem_cons_succ]
            refine wpAnyH_ready (rs := [17]) (by kernel_rfl) (by simp) (AllReadyH.cons rfl (fun K hK => ?_) AllReadyH.nil)
            rw [if_pos (by rfl)]
            go_simp
            refine hK.out _ _ (hkS _ _ hS) (fun hS => ?_)
            clear hK K
            try simp only [Act.put, List.setIfInBounds_toArray, List.set_cons_zero, List.set_cons_succ, List.getElem_toArray, List.getElem_cons_zero, List.getElem_cons_succ]
            refine wpAnyH_done (by kernel_rfl) ?_ _
            unfold before
            clear hS hkS
            obtain ⟨t, ht⟩ : ∃ t, t = wr.heap.size + 1 + 1 := ⟨_, rfl⟩
            obtain ⟨Z, hZ⟩ : ∃ Z, Z = (((wr.alloc (.cells #[.int .i64 ts1, .int .i64 te, .int .u8 ti, .int .u8 tx, .int .i64 tc] 27)).alloc (.cells #[.int .i64 0, .string (idT ti), .string (excT tx), .slice none 0 0] 31)).alloc (.cells #[.int .i64 0, .int .i64 0, .int .i64 0, .string ⟨#[]⟩, .string ⟨#[]⟩, .slice none 0 0, .int .i64 0] 34)).drew.drew := ⟨_, rfl⟩
            have hz : Z.heap[t]? = some (.cells #[.int .i64 0, .int .i64 0, .int .i64 0, .string ⟨#[]⟩, .string ⟨#[]⟩, .slice none 0 0, .int .i64 0] 34) := by rw [hZ, ht]; exact blk_at (w := (wr.alloc _).alloc _) (by simp)
            have hmz : Moved wr Z (fun _ => False) := by rw [hZ]; exact (((Moved.alloc wr _ (fun _ => False)).trans (Moved.alloc _ _ (fun _ => False)) (fun _ h => h.elim)).trans (Moved.alloc _ _ (fun _ => False)) (fun _ h => h.elim)).drew.drew
            have hle : wr.heap.size ≤ t := by rw [ht]; omega
            rw [← ht, ← hZ]
            clear ht hZ
            obtain ⟨z0, z1, z2, z3, z4, z5, z6⟩ := cells7 hz
            have zf : ∀ i, Z.frozen? ⟨t, i, none⟩ = false := fun i => frozen_of_row _ _ _ _ _ hz
            go_simp
            go_wp2_with fail
            go_meet
            exact ⟨t, rfl, set7_blk hz _ _ _ _ _ _ _, hle, hmz.trans (set7_moved _ _ _ _ _ _ _ _ _) (fun b hb => .inr (by rw [hb]; exact hle))⟩
          · rw [if_pos (by rfl)]
            go_simp
            refine hK.out _ _ (hkS _ _ hS) (fun hS => ?_)
            clear hK K
            try simp only [Act.put, List.setIfInBounds_toArray, List.set_cons_zero, List.set_cons_succ, List.getElem_toArray, List.getElem_cons_zero, List.getElem_cons_succ]
            refine wpAnyH_ready (rs := [14]) (by kernel_rfl) (by simp) (AllReadyH.cons rfl (fun K hK => ?_) AllReadyH.nil)
            rw [if_pos (by rfl)]
            go_simp
            refine (h6 _).mono ?_
            rintro r W6 ⟨rfl, rfl⟩
            refine hK.out _ _ (hkS _ _ (hkS _ _ hS)) (fun hS => ?_)
            clear hK K
            try simp only [Act.put, List.setIfInBounds_toArray, List.set_cons_zero, List.set_cons_succ, List.getElem_toArray, List.getElem_cons_zero, List.getElem_cons_succ]
            refine wpAnyH_take (i := 16) (v := .agg #[.int .i64 ts1, .int .i64 te, .int .i64 0, .string (idT ti), .string (excT tx), .slice none 0 0, .int .i64 tc]) rfl (by kernel_rfl) (by kernel_rfl) (by kernel_rfl) (fun _ _ _ h => h) (Or.inl ⟨by rfl, fun W hW => ?_⟩) hS ?_
            · obtain ⟨s0, s1, s2, s3, s4⟩ := hW
              go_simp
            try simp only [Act.put, List.setIfInBounds_toArray, List.set_cons_zero, List.set_cons_succ, List.getElem_toArray, List.getElem_cons_zero, List.getElem_cons_succ]
            refine wpAnyH_done (by kernel_rfl) ?_ _
            unfold before
            clear hS hkS
            obtain ⟨t, ht⟩ : ∃ t, t = wr.heap.size := ⟨_, rfl⟩
            obtain ⟨Z, hZ⟩ : ∃ Z, Z = (((wr.alloc (.cells #[.int .i64 0, .int .i64 0, .int .i64 0, .string ⟨#[]⟩, .string ⟨#[]⟩, .slice none 0 0, .int .i64 0] 34)).drew.alloc (.cells #[.int .i64 ts1, .int .i64 te, .int .u8 ti, .int .u8 tx, .int .i64 tc] 27)).alloc (.cells #[.int .i64 0, .string (idT ti), .string (excT tx), .slice none 0 0] 31)).drew := ⟨_, rfl⟩
            have hz : Z.heap[t]? = some (.cells #[.int .i64 0, .int .i64 0, .int .i64 0, .string ⟨#[]⟩, .string ⟨#[]⟩, .slice none 0 0, .int .i64 0] 34) := by rw [hZ, ht]; exact blk_alloc (blk_alloc (w := (wr.alloc _).drew) (blk_at (w := wr) rfl) _) _
            have hmz : Moved wr Z (fun _ => False) := by rw [hZ]; exact (((Moved.alloc wr _ (fun _ => False)).drew.trans (Moved.alloc _ _ (fun _ => False)) (fun _ h => h.elim)).trans (Moved.alloc _ _ (fun _ => False)) (fun _ h => h.elim)).drew
            have hle : wr.heap.size ≤ t := by rw [ht]; omega
            rw [← ht, ← hZ]
            clear ht hZ
            obtain ⟨z0, z1, z2, z3, z4, z5, z6⟩ := cells7 hz
            have zf : ∀ i, Z.frozen? ⟨t, i, none⟩ = false := fun i => frozen_of_row _ _ _ _ _ hz
            go_simp
            go_wp2_with fail
            go_meet
            exact ⟨t, rfl, set7_blk hz _ _ _ _ _ _ _, hle, hmz.trans (set7_moved _ _ _ _ _ _ _ _ _) (fun b hb => .inr (by rw [hb]; exact hle))⟩
        case rest =>
          obtain ⟨t10, rfl, hb10, ht10, hm10⟩ := hcut.out
          clear hcut h6
          generalize wc = Y0 at *
          go_upto_if 70 with fail
          obtain ⟨WR, hWR⟩ : ∃ W, W = wr := ⟨_, rfl⟩
          rw [← hWR] at hm10 hmv hR ht10 hB2
          go_cut [11, 12] from 70 to 102 (fun _ _ y => Hid (∃ a b c d x, y.heap[t10]? = some (.cells #[.int .i64 ts1, .int .i64 te, a, b, c, d, .int .i64 tc] 34) ∧ XAt y a b c d x ∧ GX (gr T n k) x ∧ Moved WR y (fun _ => False)))
          case first =>
            by_cases h0 : 0 < tc
            · have h0d : decide ((0 : Int) < tc) = true := decide_eq_true h0
              obtain ⟨d0, d1, d2, d3, d4, d5, d6⟩ := cells7 hb10
              obtain ⟨oG, hoG⟩ : ∃ o : Obj, o = .cells #[.int .i64 0, .string (idT ti), .string (excT tx), .slice none 0 0] 31 := ⟨_, rfl⟩
              have hbG : (Y0.alloc oG).heap[Y0.heap.size]? = some (.cells #[.int .i64 0, .string (idT ti), .string (excT tx), .slice none 0 0] 31) := by rw [hoG]; exact blk_new _ _
              have hT0 : TRow (Y0.alloc oG) Y0.heap.size (.slice (some ⟨Y0.heap.size, 0, none⟩) 1 1) [(idT ti, excT tx)] := TRow.one (e := (idT ti, excT tx)) hbG (Nat.le_refl _)
              have hg0 : gr T (k + 1) k = [(idT ti, excT tx)] := by rw [gr_start T k (by omega), HT.out.2.2.1]
              rw [← hg0] at hT0
              have HG0 : Hid (TRow (Y0.alloc oG) Y0.heap.size (.slice (some ⟨Y0.heap.size, 0, none⟩) (gr T (k + 1) k).length 1) (gr T (k + 1) k) ∧ (gr T (k + 1) k).length = 1) := by
                have h1 : (gr T (k + 1) k).length = 1 := by rw [hg0]; rfl
                exact ⟨by rw [h1]; exact hT0, h1⟩
              clear hT0 hg0 hbG
              go_wp2_with fail
              rw [← hoG]
              clear hoG
              go_loopw [11, 12] (fun v j y => GInv T n k Y0 v j y) (fun _ j _ => n - (intOf j).toNat)
              case atStart => exact ⟨k + 1, Y0.heap.size, 1, by omega, by omega, by simp, by rw [HG0.out.2], HG0.out.1, Moved.alloc _ _ _⟩
              case round =>
                obtain ⟨q, g, cg, hkq, hqn, rfl, rfl, hTR, hmG⟩ := hrel
                clear HG0
                have hmAll : Moved W2 wr (fun _ => False) := (hmv.trans hm10 (fun _ h => h.elim)).trans hmG (fun _ h => h.elim)
                have hgl : (gr T q k).length ≤ 4096 := by have := gr_le' (T := T) (show k < q by omega); omega
                by_cases hqlt : q < n
                · obtain ⟨b, o, e1, _, c0, c1, c2, c3, c4, rr1, rr2⟩ := hin2.moved hmAll q hqlt
                  obtain ⟨rfl, rfl⟩ : b0 = b ∧ o0 = o := by simpa using e1
                  clear e1
                  have hgs := gr_succ T q k
                  rw [HT.out.2.2.2] at hgs
                  have h6q := fun (W : World) => expr_any (.int .i64 (T q).s) (.int .i64 (T q).e) (T q).i (T q).x (.int .i64 (T q).c) W rr1 rr2
                  have hex : (T q).ex = (idT (T q).i, excT (T q).x) := rfl
                  rw [hex] at hgs
                  clear hex
                  generalize (T q).s = qs at *
                  generalize (T q).e = qe at *
                  generalize (T q).i = qi at *
                  generalize (T q).x = qx at *
                  generalize (T q).c = qc at *
                  have HGS : Hid (gr T (q + 1) k = if k < q ∧ qc = tc ∧ 0 < tc then gr T q k ++ [(idT qi, excT qx)] else gr T q k) := hgs
                  clear hgs
                  by_cases hc : qc = tc
                  · rw [hc] at c4 h6q
                    have hg1 : Hid (gr T (q + 1) k = gr T q k ++ [(idT qi, excT qx)]) := by show _ = _; rw [HGS.out, if_pos ⟨by omega, hc, h0⟩]
                    clear HGS hc
                    go_wp2_with (go_at_call 6; refine (h6q _).mono ?_)
                    rintro r V1 ⟨rfl, hV1⟩
                    have hmV : Moved wr V1 (fun _ => False) := by rw [hV1]; exact ((Moved.alloc wr _ (fun _ => False)).trans (Moved.alloc _ _ (fun _ => False)) (fun _ h => h.elim)).drew
                    clear hV1 h6q c0 c1 c2 c3 c4
                    have hmV2 : Moved wr (V1.alloc (.cells #[.int .i64 0, .string (idT qi), .string (excT qx), .slice none 0 0] 31)) (fun _ => False) := hmV.trans (Moved.alloc _ _ (fun _ => False)) (fun _ h => h.elim)
                    have hTV := hTR.moved hmV2
                    have hbV : (V1.alloc (.cells #[.int .i64 0, .string (idT qi), .string (excT qx), .slice none 0 0] 31)).heap[V1.heap.size]? = some (.cells #[.int .i64 0, .string (idT qi), .string (excT qx), .slice none 0 0] 31) := blk_new _ _
                    have hmG2 : Moved Y0 (V1.alloc (.cells #[.int .i64 0, .string (idT qi), .string (excT qx), .slice none 0 0] 31)) (fun _ => False) := hmG.trans hmV2 (fun _ h => h.elim)
                    have hszV : Y0.heap.size ≤ (V1.alloc (.cells #[.int .i64 0, .string (idT qi), .string (excT qx), .slice none 0 0] 31)).heap.size := hmG2.size
                    clear hTR hmG hmV hmV2
                    go_wp2_with (refine wpList_appk _ rfl _ _ 29 rfl Y0.heap.size 31 _ 4 64 Ybaf.underlying29 info31 rfl (by omega) (.slice (some ⟨g, 0, none⟩) (gr T q k).length cg) (gr T q k).length ((gr T q k).flatMap enc4) rfl hTV.row V1.heap.size 1 [.int .i64 0, .string (idT qi), .string (excT qx), .slice none 0 0] rfl rfl (cells_of_block (cs := #[.int .i64 0, .string (idT qi), .string (excT qx), .slice none 0 0]) (t := 31) hbV) (by simp [Value.oneCell']) (by unfold maxLen; omega) (by omega) hszV ?happg)
                    intro g' cap' wA hown hgrow _
                    have hmA : Moved Y0 wA (fun _ => False) := hTV.grown hgrow hmG2 (Nat.le_refl _)
                    have hRA : TRow wA Y0.heap.size (.slice (some ⟨g', 0, none⟩) ((gr T q k).length + 1) cap') (gr T q k ++ [(idT qi, excT qx)]) := TRow.push hown
                    clear hown hgrow hTV hmG2 hbV
                    have hl1 : (gr T (q + 1) k).length = (gr T q k).length + 1 := by rw [hg1.out]; simp
                    have HL1 : Hid ((gr T (q + 1) k).length = (gr T q k).length + 1) := hl1
                    clear hl1
                    go_wp2_with fail
                    go_simp
                    exact ⟨⟨q + 1, g', cap', by omega, by omega, by simp, by rw [HL1.out], by rw [HL1.out, hg1.out]; exact hRA, hmA⟩, by simp [intOf]; omega⟩
                  · have hg1 : Hid (gr T (q + 1) k = gr T q k) := by show _ = _; rw [HGS.out, if_neg (by rintro ⟨_, h, _⟩; exact hc h)]
                    have hcb : (qc == tc) = false := by simpa using hc
                    clear HGS
                    go_wp2_with fail
                    exact ⟨⟨q + 1, g, cg, by omega, by omega, by simp, by rw [hg1.out], by rw [hg1.out]; exact hTR, hmG⟩, by simp [intOf]; omega⟩
                · have hqe : n = q := by omega
                  subst hqe
                  have hmW : Moved WR wr (fun _ => False) := hm10.trans hmG (fun _ h => h.elim)
                  have hbw := hmG.blk hb10 (fun h => h)
                  by_cases h1 : 1 < (gr T n k).length
                  · have h1i : (1 : Int) < ((gr T n k).length : Int) := by omega
                    have h1d : decide ((1 : Int) < ((gr T n k).length : Int)) = true := decide_eq_true h1i
                    have hTm : TermsAt wr g (gr T n k) := own4_terms rfl hTR.row
                    go_wp2_with (go_at_call 7; refine (band_any g cg (gr T n k) _ hTm (gr_short T n k) hgl).mono ?_)
                    intro r Y7 hq7
                    obtain ⟨a, b, c, d, y, rfl, hx7, hj7, hm7⟩ := hq7.out
                    clear hq7
                    have hb7 := hm7.blk hbw (fun h => h)
                    obtain ⟨v0, v1, v2, v3, v4, v5, v6⟩ := cells7 hb7
                    have vf : ∀ i, Y7.frozen? ⟨t10, i, none⟩ = false := fun i => frozen_of_row _ _ _ _ _ hb7
                    have hmW7 : Moved WR Y7 (fun _ => False) := hmW.trans hm7 (fun _ h => h.elim)
                    clear hmW hm7 hbw hTR hmG
                    have hfin : ∀ a b c d : Value, Moved WR (set4 Y7 t10 a b c d) (fun _ => False) := fun a b c d => hmW7.trans (set4_moved _ _ _ _ _ _) (fun b hb => .inr (by rw [hb]; exact ht10))
                    have hkp : ∀ (a b c d : Value) (k : Nat) (M : Array Value), Y7.heap[k]? = some (Obj.cells M 31) → (set4 Y7 t10 a b c d).heap[k]? = Y7.heap[k]? := fun a b c d k M hM => (set4_moved _ _ _ _ _ _).block k (blk_lt hM) (by rintro rfl; rw [hb7] at hM; cases hM)
                    have HGX : Hid (GX (gr T n k) y) := .inr ⟨by omega, hj7⟩
                    clear hj7
                    cases y with
                    | inl e0 =>
                      have hx8 := hx7.keep (hkp a b c d)
                      obtain ⟨rfl, rfl, rfl, rfl⟩ := hx7
                      go_wp2_with fail
                      go_meet
                      exact ⟨_, _, _, _, .inl e0, set4_blk hb7 _ _ _ _, hx8, HGX.out, hfin _ _ _ _⟩
                    | inr l0 =>
                      have hx8 := hx7.keep (hkp a b c d)
                      obtain ⟨rfl, rfl, rfl, _, tg, cap2, M2, rfl, _, _⟩ := hx7
                      go_wp2_with fail
                      go_meet
                      exact ⟨_, _, _, _, .inr l0, set4_blk hb7 _ _ _ _, hx8, HGX.out, hfin _ _ _ _⟩
                  · have h1i : ¬ ((1 : Int) < ((gr T n k).length : Int)) := by omega
                    have h1d : decide ((1 : Int) < ((gr T n k).length : Int)) = false := decide_eq_false h1i
                    go_wp2_with fail
                    go_meet
                    exact ⟨_, _, _, _, .inl (idT ti, excT tx), hbw, ⟨rfl, rfl, rfl, rfl⟩, by rw [← HT.out.2.2.1]; exact gx_one (by have := gr_pos T n k; omega), hmW⟩
            · have h0d : decide ((0 : Int) < tc) = false := decide_eq_false h0
              go_wp2_with fail
              go_meet
              exact ⟨_, _, _, _, .inl (idT ti, excT tx), hb10, ⟨rfl, rfl, rfl, rfl⟩, by rw [gr_neg (by have := HT.out.2.2.2; omega), HT.out.2.2.1]; exact .inl ⟨_, rfl, rfl⟩, hm10⟩
          case rest =>
            obtain ⟨a, b, c, d, x, hb, hx, hgx, hmy⟩ := hcut.out
            clear hcut hb10 hm10 q0 q1 q2 q3 q4
            generalize wc = Y at *
            have hRY := hR.moved hmy
            have hmY : Moved W2 Y (fun _ => False) := hmv.trans hmy (fun _ h => h.elim)
            have hBY : B2 ≤ Y.heap.size := by rw [HB2.out]; exact hmY.size
            clear hR hmv hmy hB2
            cases x with
            | inl e =>
              obtain ⟨rfl, rfl, rfl, rfl⟩ := hx
              obtain ⟨z0, z1, z2, z3, z4, z5, z6⟩ := cells7 hb
              have hR3 : RowAt (Y.alloc (.cells #[.int .i64 ts1, .int .i64 te, .int .i64 0, .string e.1, .string e.2, .slice none 0 0, .int .i64 tc] 34)) B2 u5 us xs := hRY.moved (Moved.alloc _ _ _)
              have hm3 : Moved W2 (Y.alloc (.cells #[.int .i64 ts1, .int .i64 te, .int .i64 0, .string e.1, .string e.2, .slice none 0 0, .int .i64 tc] 34)) (fun _ => False) := hmY.trans (Moved.alloc _ _ (fun _ => False)) (fun _ h => h.elim)
              have hb4 : (Y.alloc (.cells #[.int .i64 ts1, .int .i64 te, .int .i64 0, .string e.1, .string e.2, .slice none 0 0, .int .i64 tc] 34)).heap[Y.heap.size]? = some (.cells #[.int .i64 ts1, .int .i64 te, .int .i64 0, .string e.1, .string e.2, .slice none 0 0, .int .i64 tc] 34) := blk_new _ _
              have hxx : XAt (Y.alloc (.cells #[.int .i64 ts1, .int .i64 te, .int .i64 0, .string e.1, .string e.2, .slice none 0 0, .int .i64 tc] 34)) (.int .i64 0) (.string e.1) (.string e.2) (.slice none 0 0) (.inl e) := ⟨rfl, rfl, rfl, rfl⟩
              clear hRY hmY
              go_wp2_with (refine wpList_appk _ rfl _ _ 23 rfl B2 34 _ 7 88 Ybaf.underlying23 info34 rfl (by omega) u5 us.length (us.flatMap TV.enc) rfl hR3.row Y.heap.size 1 [.int .i64 ts1, .int .i64 te, .int .i64 0, .string e.1, .string e.2, .slice none 0 0, .int .i64 tc] rfl rfl (cells_of_block (cs := #[.int .i64 ts1, .int .i64 te, .int .i64 0, .string e.1, .string e.2, .slice none 0 0, .int .i64 tc]) (t := 34) hb4) (by simp [Value.oneCell']) (by unfold maxLen; omega) (by omega) (by simp; omega) ?happi)
              intro g' cap' wA hown hgrow _
              have hmA : Moved W2 wA (fun _ => False) := hm3.trans (Moved.of_grown hgrow) (fun b hb => .inr (by
                rcases Joins.ownsRow_forms hR3.row with ⟨h1, _⟩ | ⟨g, cap, h1⟩
                · rw [h1] at hb; simp [Value.ownBlock] at hb
                · have hrow := hR3.row
                  rw [h1] at hrow hb
                  obtain ⟨cur, hg, hBg, _⟩ := own_blk hrow
                  simp [Value.ownBlock] at hb
                  rw [← HB2.out]; omega))
              have hkA : ∀ (k : Nat) (M : Array Value), (Y.alloc (.cells #[.int .i64 ts1, .int .i64 te, .int .i64 0, .string e.1, .string e.2, .slice none 0 0, .int .i64 tc] 34)).heap[k]? = some (Obj.cells M 31) → wA.heap[k]? = (Y.alloc (.cells #[.int .i64 ts1, .int .i64 te, .int .i64 0, .string e.1, .string e.2, .slice none 0 0, .int .i64 tc] 34)).heap[k]? := fun k M hM => hgrow.block k (blk_lt hM) (fun e => by
                rcases Joins.ownsRow_forms hR3.row with ⟨h1, _⟩ | ⟨g, cap, h1⟩
                · rw [h1] at e; simp [Value.ownBlock] at e
                · have hrow := hR3.row
                  rw [h1] at hrow e
                  obtain ⟨cur, hg, hBg, _⟩ := own_blk hrow
                  simp [Value.ownBlock] at e
                  subst e
                  rw [hM] at hg
                  cases hg)
              have hRA := hR3.push ⟨ts1, te, .int .i64 0, .string e.1, .string e.2, .slice none 0 0, tc⟩ ⟨ts1, te, .inl e, tc⟩ ⟨rfl, rfl, rfl, hxx⟩ hown hkA
              have hWA : Want T n (k + 1) (xs ++ [⟨ts1, te, .inl e, tc⟩]) := hW.push hkept ⟨HT.out.1.symm, HT.out.2.1.symm, HT.out.2.2.2.symm, hgx⟩
              clear hgrow hown hkA hR3 hm3 hb4 hxx
              go_wp2_with fail
              exact ⟨⟨k + 1, _, _, by omega, by simp, hRA, hWA, hmA⟩, by simp [intOf]; omega⟩
            | inr l =>
              obtain ⟨rfl, rfl, rfl, hl2, tg, cg, M, rfl, hTg, hMg⟩ := hx
              obtain ⟨z0, z1, z2, z3, z4, z5, z6⟩ := cells7 hb
              have hR3 : RowAt (Y.alloc (.cells #[.int .i64 ts1, .int .i64 te, .int .i64 1, .string noStr, .string noStr, .slice (some ⟨tg, 0, none⟩) l.length cg, .int .i64 tc] 34)) B2 u5 us xs := hRY.moved (Moved.alloc _ _ _)
              have hm3 : Moved W2 (Y.alloc (.cells #[.int .i64 ts1, .int .i64 te, .int .i64 1, .string noStr, .string noStr, .slice (some ⟨tg, 0, none⟩) l.length cg, .int .i64 tc] 34)) (fun _ => False) := hmY.trans (Moved.alloc _ _ (fun _ => False)) (fun _ h => h.elim)
              have hb4 : (Y.alloc (.cells #[.int .i64 ts1, .int .i64 te, .int .i64 1, .string noStr, .string noStr, .slice (some ⟨tg, 0, none⟩) l.length cg, .int .i64 tc] 34)).heap[Y.heap.size]? = some (.cells #[.int .i64 ts1, .int .i64 te, .int .i64 1, .string noStr, .string noStr, .slice (some ⟨tg, 0, none⟩) l.length cg, .int .i64 tc] 34) := blk_new _ _
              have hxx : XAt (Y.alloc (.cells #[.int .i64 ts1, .int .i64 te, .int .i64 1, .string noStr, .string noStr, .slice (some ⟨tg, 0, none⟩) l.length cg, .int .i64 tc] 34)) (.int .i64 1) (.string noStr) (.string noStr) (.slice (some ⟨tg, 0, none⟩) l.length cg) (.inr l) := ⟨rfl, rfl, rfl, hl2, tg, cg, M, rfl, hTg.keep fun j v hc => (Moved.alloc Y _ (fun _ => False)).cell hc (fun h => h), blk_alloc hMg _⟩
              clear hRY hmY
              go_wp2_with (refine wpList_appk _ rfl _ _ 23 rfl B2 34 _ 7 88 Ybaf.underlying23 info34 rfl (by omega) u5 us.length (us.flatMap TV.enc) rfl hR3.row Y.heap.size 1 [.int .i64 ts1, .int .i64 te, .int .i64 1, .string noStr, .string noStr, .slice (some ⟨tg, 0, none⟩) l.length cg, .int .i64 tc] rfl rfl (cells_of_block (cs := #[.int .i64 ts1, .int .i64 te, .int .i64 1, .string noStr, .string noStr, .slice (some ⟨tg, 0, none⟩) l.length cg, .int .i64 tc]) (t := 34) hb4) (by simp [Value.oneCell']) (by unfold maxLen; omega) (by omega) (by simp; omega) ?happr)
              intro g' cap' wA hown hgrow _
              have hmA : Moved W2 wA (fun _ => False) := hm3.trans (Moved.of_grown hgrow) (fun b hb => .inr (by
                rcases Joins.ownsRow_forms hR3.row with ⟨h1, _⟩ | ⟨g, cap, h1⟩
                · rw [h1] at hb; simp [Value.ownBlock] at hb
                · have hrow := hR3.row
                  rw [h1] at hrow hb
                  obtain ⟨cur, hg, hBg, _⟩ := own_blk hrow
                  simp [Value.ownBlock] at hb
                  rw [← HB2.out]; omega))
              have hkA : ∀ (k : Nat) (M : Array Value), (Y.alloc (.cells #[.int .i64 ts1, .int .i64 te, .int .i64 1, .string noStr, .string noStr, .slice (some ⟨tg, 0, none⟩) l.length cg, .int .i64 tc] 34)).heap[k]? = some (Obj.cells M 31) → wA.heap[k]? = (Y.alloc (.cells #[.int .i64 ts1, .int .i64 te, .int .i64 1, .string noStr, .string noStr, .slice (some ⟨tg, 0, none⟩) l.length cg, .int .i64 tc] 34)).heap[k]? := fun k M hM => hgrow.block k (blk_lt hM) (fun e => by
                rcases Joins.ownsRow_forms hR3.row with ⟨h1, _⟩ | ⟨g, cap, h1⟩
                · rw [h1] at e; simp [Value.ownBlock] at e
                · have hrow := hR3.row
                  rw [h1] at hrow e
                  obtain ⟨cur, hg, hBg, _⟩ := own_blk hrow
                  simp [Value.ownBlock] at e
                  subst e
                  rw [hM] at hg
                  cases hg)
              have hRA := hR3.push ⟨ts1, te, .int .i64 1, .string noStr, .string noStr, .slice (some ⟨tg, 0, none⟩) l.length cg, tc⟩ ⟨ts1, te, .inr l, tc⟩ ⟨rfl, rfl, rfl, hxx⟩ hown hkA
              have hWA : Want T n (k + 1) (xs ++ [⟨ts1, te, .inr l, tc⟩]) := hW.push hkept ⟨HT.out.1.symm, HT.out.2.1.symm, HT.out.2.2.2.symm, hgx⟩
              clear hgrow hown hkA hR3 hm3 hb4 hxx
              go_wp2_with fail
              exact ⟨⟨k + 1, _, _, by omega, by simp, hRA, hWA, hmA⟩, by simp [intOf]; omega⟩
    · have hkn : n = k := by omega
      subst hkn
      have hts : Hid (xs = ts) := hW.unique HRun.out.want
      have hok := HRun.out.ok
      have HO : Hid (∀ g ∈ ts, (flat g.x).length ≤ 4096) := fun g hg => by have := (hok.2 g hg).2; omega
      have hvl : vs.length ≤ 4096 := by rw [hJ.len]; have := hok.1; omega
      have HZ : Hid (n = 0 → ga = none) := fun h => HG.out.2 (by rw [hJ.len]; have := hok.1; omega)
      obtain ⟨ua, uc, hu5, huf, _⟩ := hR.forms
      subst hu5
      have huv : us.length = vs.length := by rw [hR.len, hts.out, hJ.len]
      have HU : Hid ((0 < vs.length → ∃ g, ua = some ⟨g, 0, none⟩) ∧ us.length = vs.length) := ⟨by rw [← huv]; exact huf, huv⟩
      rw [hts.out] at hR
      have hJw := hJ.moved hmv
      have hrJ := hJw.row
      have hrR := hR.row
      rw [huv] at hrR ⊢
      have hinw := hin2.moved hmv
      have hsrw := hsrc2.moved hmv
      have hmw : Moved w wr (fun _ => False) := hm12.trans hmv (fun _ h => h.elim)
      clear hok huf huv hJ hW hin2 hsrc2 hm12 hmv HRun hlt hk
      generalize wr = X at *
      go_upto_region 30 with fail
      go_cut [114] from 108 to 113 (fun v y => Hid (v = .bool false ∧ y = X))
      case first =>
        by_cases h0 : n = 0
        · have hga := HZ.out h0
          subst hga
          subst h0
          have hnn := neq_nil23 none vs.length gc
          go_wp2_with fail
          go_meet
          exact ⟨rfl, rfl⟩
        · have h0i : ¬ ((n : Int) = 0) := by omega
          have h0b : ((n : Int) == 0) = false := by simpa using h0i
          go_wp2_with fail
          go_meet
          exact ⟨rfl, rfl⟩
      case rest =>
        obtain ⟨rfl, hwc⟩ := hcut.out
        have hwc' := hwc.symm
        clear hcut hwc
        subst hwc'
        go_wp2_with fail
        go_loopw [122] (fun i y => Hid (∃ j : Nat, j ≤ vs.length ∧ i = .int .i64 (j : Int) ∧ Moved X y (fun _ => False))) (fun i _ => vs.length - (intOf i).toNat)
        case atStart => exact ⟨0, by omega, rfl, Moved.refl _ _⟩
        case round =>
          obtain ⟨j, hj, rfl, hmj⟩ := hrel.out
          clear hrel
          by_cases hjl : j < vs.length
          · obtain ⟨g1, rfl⟩ := HG.out.1 (by omega)
            obtain ⟨g2, rfl⟩ := HU.out.1 (by omega)
            have hjt : j < ts.length := by rw [← hJw.len]; exact hjl
            have hju : j < us.length := by rw [HU.out.2]; exact hjl
            have hE1 := (hJw.moved hmj).elt j hjl hjt
            have hE2 := (hR.moved hmj).elt j hju hjt
            have hrU := hR.row
            rw [HU.out.2] at hrU
            have ht1 := own7_tag (hJw.moved hmj).row j hjl
            have ht2 : Tag7 wr g2 j us[j].s us[j].e us[j].a us[j].b us[j].c us[j].d us[j].m := own7_tag (hR.moved hmj).row j hju
            have hxl := HO.out ts[j] (List.getElem_mem hjt)
            obtain ⟨i1, i2, i3, i4⟩ := hE1
            obtain ⟨k1, k2, k3, k4⟩ := hE2
            rw [i1, i2, i3] at ht1
            rw [k1, k2, k3] at ht2
            clear i1 i2 i3 k1 k2 k3 hrU
            generalize ts[j].s = zs at *
            generalize ts[j].e = ze at *
            generalize ts[j].c = zc at *
            generalize ts[j].x = zx at *
            generalize vs[j].a = xa at *
            generalize vs[j].b = xb at *
            generalize vs[j].c = xc at *
            generalize vs[j].d = xd at *
            generalize us[j].a = ya at *
            generalize us[j].b = yb at *
            generalize us[j].c = yc at *
            generalize us[j].d = yd at *
            obtain ⟨c0, c1, c2, c3, c4, c5, c6⟩ := ht1
            obtain ⟨c7, c8, c9, c10, c11, c12, c13⟩ := ht2
            cases zx with
            | inl e =>
              obtain ⟨rfl, rfl, rfl, rfl⟩ := i4
              obtain ⟨rfl, rfl, rfl, rfl⟩ := k4
              go_upto_region 37 with fail
              go_cut [14, 15] from 125 to 132 (fun va vb y => Hid (∃ t1 t2, va = .pointer (some ⟨t1, 0, none⟩) ∧ vb = .pointer (some ⟨t2, 0, none⟩) ∧ y.heap[t1]? = some (.cells #[.int .i64 zs, .int .i64 ze, .int .i64 0, .string e.1, .string e.2, .slice none 0 0, .int .i64 zc] 34) ∧ y.heap[t2]? = some (.cells #[.int .i64 zs, .int .i64 ze, .int .i64 0, .string e.1, .string e.2, .slice none 0 0, .int .i64 zc] 34) ∧ Moved wr y (fun _ => False)))
              case first =>
                have hkS : ∀ (W : World) (o : Obj), (W.cell? ⟨g1, j * 7, none⟩ = some (.int .i64 zs) ∧ W.cell? ⟨g1, j * 7 + 1, none⟩ = some (.int .i64 ze) ∧ W.cell? ⟨g1, j * 7 + 2, none⟩ = some (.int .i64 0) ∧ W.cell? ⟨g1, j * 7 + 3, none⟩ = some (.string e.1) ∧ W.cell? ⟨g1, j * 7 + 4, none⟩ = some (.string e.2) ∧ W.cell? ⟨g1, j * 7 + 5, none⟩ = some (.slice none 0 0) ∧ W.cell? ⟨g1, j * 7 + 6, none⟩ = some (.int .i64 zc) ∧ W.cell? ⟨g2, j * 7, none⟩ = some (.int .i64 zs) ∧ W.cell? ⟨g2, j * 7 + 1, none⟩ = some (.int .i64 ze) ∧ W.cell? ⟨g2, j * 7 + 2, none⟩ = some (.int .i64 0) ∧ W.cell? ⟨g2, j * 7 + 3, none⟩ = some (.string e.1) ∧ W.cell? ⟨g2, j * 7 + 4, none⟩ = some (.string e.2) ∧ W.cell? ⟨g2, j * 7 + 5, none⟩ = some (.slice none 0 0) ∧ W.cell? ⟨g2, j * 7 + 6, none⟩ = some (.int .i64 zc)) → ((W.alloc o).cell? ⟨g1, j * 7, none⟩ = some (.int .i64 zs) ∧ (W.alloc o).cell? ⟨g1, j * 7 + 1, none⟩ = some (.int .i64 ze) ∧ (W.alloc o).cell? ⟨g1, j * 7 + 2, none⟩ = some (.int .i64 0) ∧ (W.alloc o).cell? ⟨g1, j * 7 + 3, none⟩ = some (.string e.1) ∧ (W.alloc o).cell? ⟨g1, j * 7 + 4, none⟩ = some (.string e.2) ∧ (W.alloc o).cell? ⟨g1, j * 7 + 5, none⟩ = some (.slice none 0 0) ∧ (W.alloc o).cell? ⟨g1, j * 7 + 6, none⟩ = some (.int .i64 zc) ∧ (W.alloc o).cell? ⟨g2, j * 7, none⟩ = some (.int .i64 zs) ∧ (W.alloc o).cell? ⟨g2, j * 7 + 1, none⟩ = some (.int .i64 ze) ∧ (W.alloc o).cell? ⟨g2, j * 7 + 2, none⟩ = some (.int .i64 0) ∧ (W.alloc o).cell? ⟨g2, j * 7 + 3, none⟩ = some (.string e.1) ∧ (W.alloc o).cell? ⟨g2, j * 7 + 4, none⟩ = some (.string e.2) ∧ (W.alloc o).cell? ⟨g2, j * 7 + 5, none⟩ = some (.slice none 0 0) ∧ (W.alloc o).cell? ⟨g2, j * 7 + 6, none⟩ = some (.int .i64 zc)) := fun W o ⟨s0, s1, s2, s3, s4, s5, s6, s7, s8, s9, s10, s11, s12, s13⟩ => ⟨by rw [World.cell?_alloc_lt _ _ _ (World.block_lt_of_cell? W _ s0)]; exact s0, by rw [World.cell?_alloc_lt _ _ _ (World.block_lt_of_cell? W _ s1)]; exact s1, by rw [World.cell?_alloc_lt _ _ _ (World.block_lt_of_cell? W _ s2)]; exact s2, by rw [World.cell?_alloc_lt _ _ _ (World.block_lt_of_cell? W _ s3)]; exact s3, by rw [World.cell?_alloc_lt _ _ _ (World.block_lt_of_cell? W _ s4)]; exact s4, by rw [World.cell?_alloc_lt _ _ _ (World.block_lt_of_cell? W _ s5)]; exact s5, by rw [World.cell?_alloc_lt _ _ _ (World.block_lt_of_cell? W _ s6)]; exact s6, by rw [World.cell?_alloc_lt _ _ _ (World.block_lt_of_cell? W _ s7)]; exact s7, by rw [World.cell?_alloc_lt _ _ _ (World.block_lt_of_cell? W _ s8)]; exact s8, by rw [World.cell?_alloc_lt _ _ _ (World.block_lt_of_cell? W _ s9)]; exact s9, by rw [World.cell?_alloc_lt _ _ _ (World.block_lt_of_cell? W _ s10)]; exact s10, by rw [World.cell?_alloc_lt _ _ _ (World.block_lt_of_cell? W _ s11)]; exact s11, by rw [World.cell?_alloc_lt _ _ _ (World.block_lt_of_cell? W _ s12)]; exact s12, by rw [World.cell?_alloc_lt _ _ _ (World.block_lt_of_cell? W _ s13)]; exact s13⟩
                refine wp_region_s (S := fun w' => w'.cell? ⟨g1, j * 7, none⟩ = some (.int .i64 zs) ∧ w'.cell? ⟨g1, j * 7 + 1, none⟩ = some (.int .i64 ze) ∧ w'.cell? ⟨g1, j * 7 + 2, none⟩ = some (.int .i64 0) ∧ w'.cell? ⟨g1, j * 7 + 3, none⟩ = some (.string e.1) ∧ w'.cell? ⟨g1, j * 7 + 4, none⟩ = some (.string e.2) ∧ w'.cell? ⟨g1, j * 7 + 5, none⟩ = some (.slice none 0 0) ∧ w'.cell? ⟨g1, j * 7 + 6, none⟩ = some (.int .i64 zc) ∧ w'.cell? ⟨g2, j * 7, none⟩ = some (.int .i64 zs) ∧ w'.cell? ⟨g2, j * 7 + 1, none⟩ = some (.int .i64 ze) ∧ w'.cell? ⟨g2, j * 7 + 2, none⟩ = some (.int .i64 0) ∧ w'.cell? ⟨g2, j * 7 + 3, none⟩ = some (.string e.1) ∧ w'.cell? ⟨g2, j * 7 + 4, none⟩ = some (.string e.2) ∧ w'.cell? ⟨g2, j * 7 + 5, none⟩ = some (.slice none 0 0) ∧ w'.cell? ⟨g2, j * 7 + 6, none⟩ = some (.int .i64 zc)) (by kernel_rfl) ⟨c0, c1, c2, c3, c4, c5, c6, c7, c8, c9, c10, c11, c12, c13⟩ (fun hS => ?_)
                refine wpAnyH_take (i := 0) (v := .slice (some ⟨g1, 0, none⟩) vs.length gc) rfl (by kernel_rfl) (by kernel_rfl) (by kernel_rfl) (fun _ _ _ h => h) (Or.inl ⟨by rfl, fun W hW => ?_⟩) hS ?_
                · obtain ⟨s0, s1, s2, s3, s4, s5, s6, s7, s8, s9, s10, s11, s12, s13⟩ := hW
                  go_simp
                try simp only [Act.put, List.setIfInBounds_toArray, List.set_cons_zero, List.set_cons_succ, List.getElem_toArray, List.getElem_cons_zero, List.getElem_cons_succ]
                refine wpAnyH_take (i := 1) (v := .int .i64 (j : Int)) rfl (by kernel_rfl) (by kernel_rfl) (by kernel_rfl) (fun _ _ _ h => h) (Or.inl ⟨by rfl, fun W hW => ?_⟩) hS ?_
                · obtain ⟨s0, s1, s2, s3, s4, s5, s6, s7, s8, s9, s10, s11, s12, s13⟩ := hW
                  go_simp
                try simp only [Act.put, List.setIfInBounds_toArray, List.set_cons_zero, List.set_cons_succ, List.getElem_toArray, List.getElem_cons_zero, List.getElem_cons_succ]
                refine wpAnyH_take (i := 2) (v := .pointer (some ⟨g1, j * 7, none⟩)) rfl (by kernel_rfl) (by kernel_rfl) (by kernel_rfl) (fun _ _ _ h => h) (Or.inl ⟨by rfl, fun W hW => ?_⟩) hS ?_
                · obtain ⟨s0, s1, s2, s3, s4, s5, s6, s7, s8, s9, s10, s11, s12, s13⟩ := hW
                  go_simp
                try simp only [Act.put, List.setIfInBounds_toArray, List.set_cons_zero, List.set_cons_succ, List.getElem_toArray, List.getElem_cons_zero, List.getElem_cons_succ]
                refine wpAnyH_take (i := 3) (v := .agg #[.int .i64 zs, .int .i64 ze, .int .i64 0, .string e.1, .string e.2, .slice none 0 0, .int .i64 zc]) rfl (by kernel_rfl) (by kernel_rfl) (by kernel_rfl) (fun _ _ _ h => h) (Or.inl ⟨by rfl, fun W hW => ?_⟩) hS ?_
                · obtain ⟨s0, s1, s2, s3, s4, s5, s6, s7, s8, s9, s10, s11, s12, s13⟩ := hW
                  go_simp
                try simp only [Act.put, List.setIfInBounds_toArray, List.set_cons_zero, List.set_cons_succ, List.getElem_toArray, List.getElem_cons_zero, List.getElem_cons_succ]
                refine wpAnyH_take (i := 4) (v := .slice (some ⟨g2, 0, none⟩) vs.length uc) rfl (by kernel_rfl) (by kernel_rfl) (by kernel_rfl) (fun _ _ _ h => h) (Or.inl ⟨by rfl, fun W hW => ?_⟩) hS ?_
                · obtain ⟨s0, s1, s2, s3, s4, s5, s6, s7, s8, s9, s10, s11, s12, s13⟩ := hW
                  go_simp
                try simp only [Act.put, List.setIfInBounds_toArray, List.set_cons_zero, List.set_cons_succ, List.getElem_toArray, List.getElem_cons_zero, List.getElem_cons_succ]
                refine wpAnyH_take (i := 5) (v := .int .i64 (j : Int)) rfl (by kernel_rfl) (by kernel_rfl) (by kernel_rfl) (fun _ _ _ h => h) (Or.inl ⟨by rfl, fun W hW => ?_⟩) hS ?_
                · obtain ⟨s0, s1, s2, s3, s4, s5, s6, s7, s8, s9, s10, s11, s12, s13⟩ := hW
                  go_simp
                try simp only [Act.put, List.setIfInBounds_toArray, List.set_cons_zero, List.set_cons_succ, List.getElem_toArray, List.getElem_cons_zero, List.getElem_cons_succ]
                refine wpAnyH_take (i := 6) (v := .pointer (some ⟨g2, j * 7, none⟩)) rfl (by kernel_rfl) (by kernel_rfl) (by kernel_rfl) (fun _ _ _ h => h) (Or.inl ⟨by rfl, fun W hW => ?_⟩) hS ?_
                · obtain ⟨s0, s1, s2, s3, s4, s5, s6, s7, s8, s9, s10, s11, s12, s13⟩ := hW
                  go_simp
                try simp only [Act.put, List.setIfInBounds_toArray, List.set_cons_zero, List.set_cons_succ, List.getElem_toArray, List.getElem_cons_zero, List.getElem_cons_succ]
                refine wpAnyH_take (i := 7) (v := .agg #[.int .i64 zs, .int .i64 ze, .int .i64 0, .string e.1, .string e.2, .slice none 0 0, .int .i64 zc]) rfl (by kernel_rfl) (by kernel_rfl) (by kernel_rfl) (fun _ _ _ h => h) (Or.inl ⟨by rfl, fun W hW => ?_⟩) hS ?_
                · obtain ⟨s0, s1, s2, s3, s4, s5, s6, s7, s8, s9, s10, s11, s12, s13⟩ := hW
                  go_simp
                try simp only [Act.put, List.setIfInBounds_toArray, List.set_cons_zero, List.set_cons_succ, List.getElem_toArray, List.getElem_cons_zero, List.getElem_cons_succ]
                refine wpAnyH_ready (rs := [8, 9]) (by kernel_rfl) (by simp) (AllReadyH.cons rfl (fun K hK => ?_) (AllReadyH.cons rfl (fun K hK => ?_) AllReadyH.nil))
                · rw [if_pos (by rfl)]
                  go_simp
                  refine hK.out _ _ (hkS _ _ hS) (fun hS => ?_)
                  clear hK K
                  try simp only [Act.put, List.setIfInBounds_toArray, List.set_cons_zero, List.set_cons_succ, List.getElem_toArray, List.getElem_cons_zero, List.getElem_cons_succ]
                  refine wpAnyH_ready (rs := [9]) (by kernel_rfl) (by simp) (AllReadyH.cons rfl (fun K hK => ?_) AllReadyH.nil)
                  rw [if_pos (by rfl)]
                  go_simp
                  refine hK.out _ _ (hkS _ _ hS) (fun hS => ?_)
                  clear hK K
                  try simp only [Act.put, List.setIfInBounds_toArray, List.set_cons_zero, List.set_cons_succ, List.getElem_toArray, List.getElem_cons_zero, List.getElem_cons_succ]
                  obtain ⟨e1, he1⟩ : ∃ t, t = wr.heap.size := ⟨_, rfl⟩
                  obtain ⟨e2, he2⟩ : ∃ t, t = wr.heap.size + 1 := ⟨_, rfl⟩
                  obtain ⟨Z, hZ⟩ : ∃ Z, Z = ((wr.alloc (.cells #[.int .i64 0, .int .i64 0, .int .i64 0, .string ⟨#[]⟩, .string ⟨#[]⟩, .slice none 0 0, .int .i64 0] 34)).alloc (.cells #[.int .i64 0, .int .i64 0, .int .i64 0, .string ⟨#[]⟩, .string ⟨#[]⟩, .slice none 0 0, .int .i64 0] 34)).drew := ⟨_, rfl⟩
                  have hz1 : Z.heap[e1]? = some (.cells #[.int .i64 0, .int .i64 0, .int .i64 0, .string ⟨#[]⟩, .string ⟨#[]⟩, .slice none 0 0, .int .i64 0] 34) := by rw [hZ, he1]; exact blk_alloc (blk_at (w := wr) rfl) _
                  have hz2 : Z.heap[e2]? = some (.cells #[.int .i64 0, .int .i64 0, .int .i64 0, .string ⟨#[]⟩, .string ⟨#[]⟩, .slice none 0 0, .int .i64 0] 34) := by rw [hZ, he2]; exact blk_at (w := wr.alloc _) (by simp)
                  have hmz : Moved wr Z (fun _ => False) := by rw [hZ]; exact ((Moved.alloc wr _ (fun _ => False)).trans (Moved.alloc _ _ (fun _ => False)) (fun _ h => h.elim)).drew
                  have hne : e1 ≠ e2 := by omega
                  have hl1 : wr.heap.size ≤ e1 := by omega
                  have hl2 : wr.heap.size ≤ e2 := by omega
                  rw [← he2, ← he1, ← hZ]
                  rw [← hZ] at hS
                  clear he1 he2 hZ
                  obtain ⟨z0, z1, z2, z3, z4, z5, z6⟩ := cells7 hz1
                  have zf : ∀ i, Z.frozen? ⟨e1, i, none⟩ = false := fun i => frozen_of_row _ _ _ _ _ hz1
                  refine wpAnyH_ready (rs := [10]) (by kernel_rfl) (by simp) (AllReadyH.cons rfl (fun K hK => ?_) AllReadyH.nil)
                  rw [if_pos (by rfl)]
                  go_simp
                  have hy1 := set7_blk hz1 (.int .i64 zs) (.int .i64 ze) (.int .i64 0) (.string e.1) (.string e.2) (.slice none 0 0) (.int .i64 zc)
                  have hmy : Moved wr (set7 Z e1 (.int .i64 zs) (.int .i64 ze) (.int .i64 0) (.string e.1) (.string e.2) (.slice none 0 0) (.int .i64 zc)) (fun _ => False) := hmz.trans (set7_moved _ _ _ _ _ _ _ _ _) (fun b hb => .inr (by rw [hb]; exact hl1))
                  have hy2 := (set7_moved Z e1 (.int .i64 zs) (.int .i64 ze) (.int .i64 0) (.string e.1) (.string e.2) (.slice none 0 0) (.int .i64 zc)).blk hz2 (by omega)
                  refine hK.out _ (set7 Z e1 (.int .i64 zs) (.int .i64 ze) (.int .i64 0) (.string e.1) (.string e.2) (.slice none 0 0) (.int .i64 zc)) ⟨hmy.cell c0 (fun h => h), hmy.cell c1 (fun h => h), hmy.cell c2 (fun h => h), hmy.cell c3 (fun h => h), hmy.cell c4 (fun h => h), hmy.cell c5 (fun h => h), hmy.cell c6 (fun h => h), hmy.cell c7 (fun h => h), hmy.cell c8 (fun h => h), hmy.cell c9 (fun h => h), hmy.cell c10 (fun h => h), hmy.cell c11 (fun h => h), hmy.cell c12 (fun h => h), hmy.cell c13 (fun h => h)⟩ (fun hS => ?_)
                  clear hK K z0 z1 z2 z3 z4 z5 z6 zf hz1 hz2 hmz
                  generalize set7 Z e1 (.int .i64 zs) (.int .i64 ze) (.int .i64 0) (.string e.1) (.string e.2) (.slice none 0 0) (.int .i64 zc) = Z2 at *
                  try simp only [Act.put, List.setIfInBounds_toArray, List.set_cons_zero, List.set_cons_succ, List.getElem_toArray, List.getElem_cons_zero, List.getElem_cons_succ]
                  obtain ⟨z0, z1, z2, z3, z4, z5, z6⟩ := cells7 hy2
                  have zf : ∀ i, Z2.frozen? ⟨e2, i, none⟩ = false := fun i => frozen_of_row _ _ _ _ _ hy2
                  refine wpAnyH_ready (rs := [11]) (by kernel_rfl) (by simp) (AllReadyH.cons rfl (fun K hK => ?_) AllReadyH.nil)
                  rw [if_pos (by rfl)]
                  go_simp
                  have hw2 := set7_blk hy2 (.int .i64 zs) (.int .i64 ze) (.int .i64 0) (.string e.1) (.string e.2) (.slice none 0 0) (.int .i64 zc)
                  have hmw2 : Moved wr (set7 Z2 e2 (.int .i64 zs) (.int .i64 ze) (.int .i64 0) (.string e.1) (.string e.2) (.slice none 0 0) (.int .i64 zc)) (fun _ => False) := hmy.trans (set7_moved _ _ _ _ _ _ _ _ _) (fun b hb => .inr (by rw [hb]; exact hl2))
                  have hw1 := (set7_moved Z2 e2 (.int .i64 zs) (.int .i64 ze) (.int .i64 0) (.string e.1) (.string e.2) (.slice none 0 0) (.int .i64 zc)).blk hy1 (by omega)
                  refine hK.out _ (set7 Z2 e2 (.int .i64 zs) (.int .i64 ze) (.int .i64 0) (.string e.1) (.string e.2) (.slice none 0 0) (.int .i64 zc)) ⟨hmw2.cell c0 (fun h => h), hmw2.cell c1 (fun h => h), hmw2.cell c2 (fun h => h), hmw2.cell c3 (fun h => h), hmw2.cell c4 (fun h => h), hmw2.cell c5 (fun h => h), hmw2.cell c6 (fun h => h), hmw2.cell c7 (fun h => h), hmw2.cell c8 (fun h => h), hmw2.cell c9 (fun h => h), hmw2.cell c10 (fun h => h), hmw2.cell c11 (fun h => h), hmw2.cell c12 (fun h => h), hmw2.cell c13 (fun h => h)⟩ (fun hS => ?_)
                  clear hK K z0 z1 z2 z3 z4 z5 z6 zf hy1 hy2 hmy
                  generalize set7 Z2 e2 (.int .i64 zs) (.int .i64 ze) (.int .i64 0) (.string e.1) (.string e.2) (.slice none 0 0) (.int .i64 zc) = Z3 at *
                  try simp only [Act.put, List.setIfInBounds_toArray, List.set_cons_zero, List.set_cons_succ, List.getElem_toArray, List.getElem_cons_zero, List.getElem_cons_succ]
                  refine wpAnyH_done (by kernel_rfl) ?_ _
                  clear hS hkS
                  go_simp
                  go_wp2_with fail
                  go_meet
                  exact ⟨e1, e2, rfl, rfl, hw1, hw2, hmw2⟩
                · rw [if_pos (by rfl)]
                  go_simp
                  refine hK.out _ _ (hkS _ _ hS) (fun hS => ?_)
                  clear hK K
                  try simp only [Act.put, List.setIfInBounds_toArray, List.set_cons_zero, List.set_cons_succ, List.getElem_toArray, List.getElem_cons_zero, List.getElem_cons_succ]
                  refine wpAnyH_ready (rs := [8]) (by kernel_rfl) (by simp) (AllReadyH.cons rfl (fun K hK => ?_) AllReadyH.nil)
                  rw [if_pos (by rfl)]
                  go_simp
                  refine hK.out _ _ (hkS _ _ hS) (fun hS => ?_)
                  clear hK K
                  try simp only [Act.put, List.setIfInBounds_toArray, List.set_cons_zero, List.set_cons_succ, List.getElem_toArray, List.getElem_cons_zero, List.getElem_cons_succ]
                  obtain ⟨e1, he1⟩ : ∃ t, t = wr.heap.size := ⟨_, rfl⟩
                  obtain ⟨e2, he2⟩ : ∃ t, t = wr.heap.size + 1 := ⟨_, rfl⟩
                  obtain ⟨Z, hZ⟩ : ∃ Z, Z = ((wr.alloc (.cells #[.int .i64 0, .int .i64 0, .int .i64 0, .string ⟨#[]⟩, .string ⟨#[]⟩, .slice none 0 0, .int .i64 0] 34)).alloc (.cells #[.int .i64 0, .int .i64 0, .int .i64 0, .string ⟨#[]⟩, .string ⟨#[]⟩, .slice none 0 0, .int .i64 0] 34)).drew := ⟨_, rfl⟩
                  have hz1 : Z.heap[e1]? = some (.cells #[.int .i64 0, .int .i64 0, .int .i64 0, .string ⟨#[]⟩, .string ⟨#[]⟩, .slice none 0 0, .int .i64 0] 34) := by rw [hZ, he1]; exact blk_alloc (blk_at (w := wr) rfl) _
                  have hz2 : Z.heap[e2]? = some (.cells #[.int .i64 0, .int .i64 0, .int .i64 0, .string ⟨#[]⟩, .string ⟨#[]⟩, .slice none 0 0, .int .i64 0] 34) := by rw [hZ, he2]; exact blk_at (w := wr.alloc _) (by simp)
                  have hmz : Moved wr Z (fun _ => False) := by rw [hZ]; exact ((Moved.alloc wr _ (fun _ => False)).trans (Moved.alloc _ _ (fun _ => False)) (fun _ h => h.elim)).drew
                  have hne : e1 ≠ e2 := by omega
                  have hl1 : wr.heap.size ≤ e1 := by omega
                  have hl2 : wr.heap.size ≤ e2 := by omega
                  rw [← he2, ← he1, ← hZ]
                  rw [← hZ] at hS
                  clear he1 he2 hZ
                  obtain ⟨z0, z1, z2, z3, z4, z5, z6⟩ := cells7 hz2
                  have zf : ∀ i, Z.frozen? ⟨e2, i, none⟩ = false := fun i => frozen_of_row _ _ _ _ _ hz2
                  refine wpAnyH_ready (rs := [10]) (by kernel_rfl) (by simp) (AllReadyH.cons rfl (fun K hK => ?_) AllReadyH.nil)
                  rw [if_pos (by rfl)]
                  go_simp
                  have hy1 := set7_blk hz2 (.int .i64 zs) (.int .i64 ze) (.int .i64 0) (.string e.1) (.string e.2) (.slice none 0 0) (.int .i64 zc)
                  have hmy : Moved wr (set7 Z e2 (.int .i64 zs) (.int .i64 ze) (.int .i64 0) (.string e.1) (.string e.2) (.slice none 0 0) (.int .i64 zc)) (fun _ => False) := hmz.trans (set7_moved _ _ _ _ _ _ _ _ _) (fun b hb => .inr (by rw [hb]; exact hl2))
                  have hy2 := (set7_moved Z e2 (.int .i64 zs) (.int .i64 ze) (.int .i64 0) (.string e.1) (.string e.2) (.slice none 0 0) (.int .i64 zc)).blk hz1 (by omega)
                  refine hK.out _ (set7 Z e2 (.int .i64 zs) (.int .i64 ze) (.int .i64 0) (.string e.1) (.string e.2) (.slice none 0 0) (.int .i64 zc)) ⟨hmy.cell c0 (fun h => h), hmy.cell c1 (fun h => h), hmy.cell c2 (fun h => h), hmy.cell c3 (fun h => h), hmy.cell c4 (fun h => h), hmy.cell c5 (fun h => h), hmy.cell c6 (fun h => h), hmy.cell c7 (fun h => h), hmy.cell c8 (fun h => h), hmy.cell c9 (fun h => h), hmy.cell c10 (fun h => h), hmy.cell c11 (fun h => h), hmy.cell c12 (fun h => h), hmy.cell c13 (fun h => h)⟩ (fun hS => ?_)
                  clear hK K z0 z1 z2 z3 z4 z5 z6 zf hz1 hz2 hmz
                  generalize set7 Z e2 (.int .i64 zs) (.int .i64 ze) (.int .i64 0) (.string e.1) (.string e.2) (.slice none 0 0) (.int .i64 zc) = Z2 at *
                  try simp only [Act.put, List.setIfInBounds_toArray, List.set_cons_zero, List.set_cons_succ, List.getElem_toArray, List.getElem_cons_zero, List.getElem_cons_succ]
                  obtain ⟨z0, z1, z2, z3, z4, z5, z6⟩ := cells7 hy2
                  have zf : ∀ i, Z2.frozen? ⟨e1, i, none⟩ = false := fun i => frozen_of_row _ _ _ _ _ hy2
                  refine wpAnyH_ready (rs := [11]) (by kernel_rfl) (by simp) (AllReadyH.cons rfl (fun K hK => ?_) AllReadyH.nil)
                  rw [if_pos (by rfl)]
                  go_simp
                  have hw2 := set7_blk hy2 (.int .i64 zs) (.int .i64 ze) (.int .i64 0) (.string e.1) (.string e.2) (.slice none 0 0) (.int .i64 zc)
                  have hmw2 : Moved wr (set7 Z2 e1 (.int .i64 zs) (.int .i64 ze) (.int .i64 0) (.string e.1) (.string e.2) (.slice none 0 0) (.int .i64 zc)) (fun _ => False) := hmy.trans (set7_moved _ _ _ _ _ _ _ _ _) (fun b hb => .inr (by rw [hb]; exact hl1))
                  have hw1 := (set7_moved Z2 e1 (.int .i64 zs) (.int .i64 ze) (.int .i64 0) (.string e.1) (.string e.2) (.slice none 0 0) (.int .i64 zc)).blk hy1 (by omega)
                  refine hK.out _ (set7 Z2 e1 (.int .i64 zs) (.int .i64 ze) (.int .i64 0) (.string e.1) (.string e.2) (.slice none 0 0) (.int .i64 zc)) ⟨hmw2.cell c0 (fun h => h), hmw2.cell c1 (fun h => h), hmw2.cell c2 (fun h => h), hmw2.cell c3 (fun h => h), hmw2.cell c4 (fun h => h), hmw2.cell c5 (fun h => h), hmw2.cell c6 (fun h => h), hmw2.cell c7 (fun h => h), hmw2.cell c8 (fun h => h), hmw2.cell c9 (fun h => h), hmw2.cell c10 (fun h => h), hmw2.cell c11 (fun h => h), hmw2.cell c12 (fun h => h), hmw2.cell c13 (fun h => h)⟩ (fun hS => ?_)
                  clear hK K z0 z1 z2 z3 z4 z5 z6 zf hy1 hy2 hmy
                  generalize set7 Z2 e1 (.int .i64 zs) (.int .i64 ze) (.int .i64 0) (.string e.1) (.string e.2) (.slice none 0 0) (.int .i64 zc) = Z3 at *
                  try simp only [Act.put, List.setIfInBounds_toArray, List.set_cons_zero, List.set_cons_succ, List.getElem_toArray, List.getElem_cons_zero, List.getElem_cons_succ]
                  refine wpAnyH_done (by kernel_rfl) ?_ _
                  clear hS hkS
                  go_simp
                  go_wp2_with fail
                  go_meet
                  exact ⟨e2, e1, rfl, rfl, hw1, hw2, hmw2⟩
              case rest =>
                obtain ⟨t1, t2, rfl, rfl, hb1, hb2, hmy⟩ := hcut.out
                clear hcut c0 c1 c2 c3 c4 c5 c6 c7 c8 c9 c10 c11 c12 c13
                generalize wc = Y at *
                obtain ⟨f0, f1, f2, f3, f4, f5, f6⟩ := cells7 hb1
                obtain ⟨h0, h1, h2, h3, h4, h5, h6⟩ := cells7 hb2
                have hbe := beq_self (.inl e) (.int .i64 0) (.string e.1) (.string e.2) (.slice none 0 0) (.int .i64 0) (.string e.1) (.string e.2) (.slice none 0 0) Y ⟨rfl, rfl, rfl, rfl⟩ ⟨rfl, rfl, rfl, rfl⟩ (by simp [flat])
                go_wp2_with (go_at_call 8; refine hbe.mono ?_)
                intro r Y2 hq2
                obtain ⟨rfl, hmq⟩ := hq2.out
                have hmz := (hmj.trans hmy (fun _ h => h.elim)).trans hmq (fun _ h => h.elim)
                clear hq2 hbe hmq hmy hb1 hb2
                go_wp2_with fail
                exact ⟨⟨j + 1, by omega, by simp, hmz⟩, by simp [intOf]; omega⟩
            | inr l =>
              obtain ⟨rfl, rfl, rfl, hl2, tg, cg, M, rfl, hTg, hMg⟩ := i4
              obtain ⟨rfl, rfl, rfl, hl3, th, ch, M', rfl, hTh, hMh⟩ := k4
              go_upto_region 37 with fail
              go_cut [14, 15] from 125 to 132 (fun va vb y => Hid (∃ t1 t2, va = .pointer (some ⟨t1, 0, none⟩) ∧ vb = .pointer (some ⟨t2, 0, none⟩) ∧ y.heap[t1]? = some (.cells #[.int .i64 zs, .int .i64 ze, .int .i64 1, .string noStr, .string noStr, .slice (some ⟨tg, 0, none⟩) l.length cg, .int .i64 zc] 34) ∧ y.heap[t2]? = some (.cells #[.int .i64 zs, .int .i64 ze, .int .i64 1, .string noStr, .string noStr, .slice (some ⟨th, 0, none⟩) l.length ch, .int .i64 zc] 34) ∧ Moved wr y (fun _ => False)))
              case first =>
                have hkS : ∀ (W : World) (o : Obj), (W.cell? ⟨g1, j * 7, none⟩ = some (.int .i64 zs) ∧ W.cell? ⟨g1, j * 7 + 1, none⟩ = some (.int .i64 ze) ∧ W.cell? ⟨g1, j * 7 + 2, none⟩ = some (.int .i64 1) ∧ W.cell? ⟨g1, j * 7 + 3, none⟩ = some (.string noStr) ∧ W.cell? ⟨g1, j * 7 + 4, none⟩ = some (.string noStr) ∧ W.cell? ⟨g1, j * 7 + 5, none⟩ = some (.slice (some ⟨tg, 0, none⟩) l.length cg) ∧ W.cell? ⟨g1, j * 7 + 6, none⟩ = some (.int .i64 zc) ∧ W.cell? ⟨g2, j * 7, none⟩ = some (.int .i64 zs) ∧ W.cell? ⟨g2, j * 7 + 1, none⟩ = some (.int .i64 ze) ∧ W.cell? ⟨g2, j * 7 + 2, none⟩ = some (.int .i64 1) ∧ W.cell? ⟨g2, j * 7 + 3, none⟩ = some (.string noStr) ∧ W.cell? ⟨g2, j * 7 + 4, none⟩ = some (.string noStr) ∧ W.cell? ⟨g2, j * 7 + 5, none⟩ = some (.slice (some ⟨th, 0, none⟩) l.length ch) ∧ W.cell? ⟨g2, j * 7 + 6, none⟩ = some (.int .i64 zc)) → ((W.alloc o).cell? ⟨g1, j * 7, none⟩ = some (.int .i64 zs) ∧ (W.alloc o).cell? ⟨g1, j * 7 + 1, none⟩ = some (.int .i64 ze) ∧ (W.alloc o).cell? ⟨g1, j * 7 + 2, none⟩ = some (.int .i64 1) ∧ (W.alloc o).cell? ⟨g1, j * 7 + 3, none⟩ = some (.string noStr) ∧ (W.alloc o).cell? ⟨g1, j * 7 + 4, none⟩ = some (.string noStr) ∧ (W.alloc o).cell? ⟨g1, j * 7 + 5, none⟩ = some (.slice (some ⟨tg, 0, none⟩) l.length cg) ∧ (W.alloc o).cell? ⟨g1, j * 7 + 6, none⟩ = some (.int .i64 zc) ∧ (W.alloc o).cell? ⟨g2, j * 7, none⟩ = some (.int .i64 zs) ∧ (W.alloc o).cell? ⟨g2, j * 7 + 1, none⟩ = some (.int .i64 ze) ∧ (W.alloc o).cell? ⟨g2, j * 7 + 2, none⟩ = some (.int .i64 1) ∧ (W.alloc o).cell? ⟨g2, j * 7 + 3, none⟩ = some (.string noStr) ∧ (W.alloc o).cell? ⟨g2, j * 7 + 4, none⟩ = some (.string noStr) ∧ (W.alloc o).cell? ⟨g2, j * 7 + 5, none⟩ = some (.slice (some ⟨th, 0, none⟩) l.length ch) ∧ (W.alloc o).cell? ⟨g2, j * 7 + 6, none⟩ = some (.int .i64 zc)) := fun W o ⟨s0, s1, s2, s3, s4, s5, s6, s7, s8, s9, s10, s11, s12, s13⟩ => ⟨by rw [World.cell?_alloc_lt _ _ _ (World.block_lt_of_cell? W _ s0)]; exact s0, by rw [World.cell?_alloc_lt _ _ _ (World.block_lt_of_cell? W _ s1)]; exact s1, by rw [World.cell?_alloc_lt _ _ _ (World.block_lt_of_cell? W _ s2)]; exact s2, by rw [World.cell?_alloc_lt _ _ _ (World.block_lt_of_cell? W _ s3)]; exact s3, by rw [World.cell?_alloc_lt _ _ _ (World.block_lt_of_cell? W _ s4)]; exact s4, by rw [World.cell?_alloc_lt _ _ _ (World.block_lt_of_cell? W _ s5)]; exact s5, by rw [World.cell?_alloc_lt _ _ _ (World.block_lt_of_cell? W _ s6)]; exact s6, by rw [World.cell?_alloc_lt _ _ _ (World.block_lt_of_cell? W _ s7)]; exact s7, by rw [World.cell?_alloc_lt _ _ _ (World.block_lt_of_cell? W _ s8)]; exact s8, by rw [World.cell?_alloc_lt _ _ _ (World.block_lt_of_cell? W _ s9)]; exact s9, by rw [World.cell?_alloc_lt _ _ _ (World.block_lt_of_cell? W _ s10)]; exact s10, by rw [World.cell?_alloc_lt _ _ _ (World.block_lt_of_cell? W _ s11)]; exact s11, by rw [World.cell?_alloc_lt _ _ _ (World.block_lt_of_cell? W _ s12)]; exact s12, by rw [World.cell?_alloc_lt _ _ _ (World.block_lt_of_cell? W _ s13)]; exact s13⟩
                refine wp_region_s (S := fun w' => w'.cell? ⟨g1, j * 7, none⟩ = some (.int .i64 zs) ∧ w'.cell? ⟨g1, j * 7 + 1, none⟩ = some (.int .i64 ze) ∧ w'.cell? ⟨g1, j * 7 + 2, none⟩ = some (.int .i64 1) ∧ w'.cell? ⟨g1, j * 7 + 3, none⟩ = some (.string noStr) ∧ w'.cell? ⟨g1, j * 7 + 4, none⟩ = some (.string noStr) ∧ w'.cell? ⟨g1, j * 7 + 5, none⟩ = some (.slice (some ⟨tg, 0, none⟩) l.length cg) ∧ w'.cell? ⟨g1, j * 7 + 6, none⟩ = some (.int .i64 zc) ∧ w'.cell? ⟨g2, j * 7, none⟩ = some (.int .i64 zs) ∧ w'.cell? ⟨g2, j * 7 + 1, none⟩ = some (.int .i64 ze) ∧ w'.cell? ⟨g2, j * 7 + 2, none⟩ = some (.int .i64 1) ∧ w'.cell? ⟨g2, j * 7 + 3, none⟩ = some (.string noStr) ∧ w'.cell? ⟨g2, j * 7 + 4, none⟩ = some (.string noStr) ∧ w'.cell? ⟨g2, j * 7 + 5, none⟩ = some (.slice (some ⟨th, 0, none⟩) l.length ch) ∧ w'.cell? ⟨g2, j * 7 + 6, none⟩ = some (.int .i64 zc)) (by kernel_rfl) ⟨c0, c1, c2, c3, c4, c5, c6, c7, c8, c9, c10, c11, c12, c13⟩ (fun hS => ?_)
                refine wpAnyH_take (i := 0) (v := .slice (some ⟨g1, 0, none⟩) vs.length gc) rfl (by kernel_rfl) (by kernel_rfl) (by kernel_rfl) (fun _ _ _ h => h) (Or.inl ⟨by rfl, fun W hW => ?_⟩) hS ?_
                · obtain ⟨s0, s1, s2, s3, s4, s5, s6, s7, s8, s9, s10, s11, s12, s13⟩ := hW
                  go_simp
                try simp only [Act.put, List.setIfInBounds_toArray, List.set_cons_zero, List.set_cons_succ, List.getElem_toArray, List.getElem_cons_zero, List.getElem_cons_succ]
                refine wpAnyH_take (i := 1) (v := .int .i64 (j : Int)) rfl (by kernel_rfl) (by kernel_rfl) (by kernel_rfl) (fun _ _ _ h => h) (Or.inl ⟨by rfl, fun W hW => ?_⟩) hS ?_
                · obtain ⟨s0, s1, s2, s3, s4, s5, s6, s7, s8, s9, s10, s11, s12, s13⟩ := hW
                  go_simp
                try simp only [Act.put, List.setIfInBounds_toArray, List.set_cons_zero, List.set_cons_succ, List.getElem_toArray, List.getElem_cons_zero, List.getElem_cons_succ]
                refine wpAnyH_take (i := 2) (v := .pointer (some ⟨g1, j * 7, none⟩)) rfl (by kernel_rfl) (by kernel_rfl) (by kernel_rfl) (fun _ _ _ h => h) (Or.inl ⟨by rfl, fun W hW => ?_⟩) hS ?_
                · obtain ⟨s0, s1, s2, s3, s4, s5, s6, s7, s8, s9, s10, s11, s12, s13⟩ := hW
                  go_simp
                try simp only [Act.put, List.setIfInBounds_toArray, List.set_cons_zero, List.set_cons_succ, List.getElem_toArray, List.getElem_cons_zero, List.getElem_cons_succ]
                refine wpAnyH_take (i := 3) (v := .agg #[.int .i64 zs, .int .i64 ze, .int .i64 1, .string noStr, .string noStr, .slice (some ⟨tg, 0, none⟩) l.length cg, .int .i64 zc]) rfl (by kernel_rfl) (by kernel_rfl) (by kernel_rfl) (fun _ _ _ h => h) (Or.inl ⟨by rfl, fun W hW => ?_⟩) hS ?_
                · obtain ⟨s0, s1, s2, s3, s4, s5, s6, s7, s8, s9, s10, s11, s12, s13⟩ := hW
                  go_simp
                try simp only [Act.put, List.setIfInBounds_toArray, List.set_cons_zero, List.set_cons_succ, List.getElem_toArray, List.getElem_cons_zero, List.getElem_cons_succ]
                refine wpAnyH_take (i := 4) (v := .slice (some ⟨g2, 0, none⟩) vs.length uc) rfl (by kernel_rfl) (by kernel_rfl) (by kernel_rfl) (fun _ _ _ h => h) (Or.inl ⟨by rfl, fun W hW => ?_⟩) hS ?_
                · obtain ⟨s0, s1, s2, s3, s4, s5, s6, s7, s8, s9, s10, s11, s12, s13⟩ := hW
                  go_simp
                try simp only [Act.put, List.setIfInBounds_toArray, List.set_cons_zero, List.set_cons_succ, List.getElem_toArray, List.getElem_cons_zero, List.getElem_cons_succ]
                refine wpAnyH_take (i := 5) (v := .int .i64 (j : Int)) rfl (by kernel_rfl) (by kernel_rfl) (by kernel_rfl) (fun _ _ _ h => h) (Or.inl ⟨by rfl, fun W hW => ?_⟩) hS ?_
                · obtain ⟨s0, s1, s2, s3, s4, s5, s6, s7, s8, s9, s10, s11, s12, s13⟩ := hW
                  go_simp
                try simp only [Act.put, List.setIfInBounds_toArray, List.set_cons_zero, List.set_cons_succ, List.getElem_toArray, List.getElem_cons_zero, List.getElem_cons_succ]
                refine wpAnyH_take (i := 6) (v := .pointer (some ⟨g2, j * 7, none⟩)) rfl (by kernel_rfl) (by kernel_rfl) (by kernel_rfl) (fun _ _ _ h => h) (Or.inl ⟨by rfl, fun W hW => ?_⟩) hS ?_
                · obtain ⟨s0, s1, s2, s3, s4, s5, s6, s7, s8, s9, s10, s11, s12, s13⟩ := hW
                  go_simp
                try simp only [Act.put, List.setIfInBounds_toArray, List.set_cons_zero, List.set_cons_succ, List.getElem_toArray, List.getElem_cons_zero, List.getElem_cons_succ]
                refine wpAnyH_take (i := 7) (v := .agg #[.int .i64 zs, .int .i64 ze, .int .i64 1, .string noStr, .string noStr, .slice (some ⟨th, 0, none⟩) l.length ch, .int .i64 zc]) rfl (by kernel_rfl) (by kernel_rfl) (by kernel_rfl) (fun _ _ _ h => h) (Or.inl ⟨by rfl, fun W hW => ?_⟩) hS ?_
                · obtain ⟨s0, s1, s2, s3, s4, s5, s6, s7, s8, s9, s10, s11, s12, s13⟩ := hW
                  go_simp
                try simp only [Act.put, List.setIfInBounds_toArray, List.set_cons_zero, List.set_cons_succ, List.getElem_toArray, List.getElem_cons_zero, List.getElem_cons_succ]
                refine wpAnyH_ready (rs := [8, 9]) (by kernel_rfl) (by simp) (AllReadyH.cons rfl (fun K hK => ?_) (AllReadyH.cons rfl (fun K hK => ?_) AllReadyH.nil))
                · rw [if_pos (by rfl)]
                  go_simp
                  refine hK.out _ _ (hkS _ _ hS) (fun hS => ?_)
                  clear hK K
                  try simp only [Act.put, List.setIfInBounds_toArray, List.set_cons_zero, List.set_cons_succ, List.getElem_toArray, List.getElem_cons_zero, List.getElem_cons_succ]
                  refine wpAnyH_ready (rs := [9]) (by kernel_rfl) (by simp) (AllReadyH.cons rfl (fun K hK => ?_) AllReadyH.nil)
                  rw [if_pos (by rfl)]
                  go_simp
                  refine hK.out _ _ (hkS _ _ hS) (fun hS => ?_)
                  clear hK K
                  try simp only [Act.put, List.setIfInBounds_toArray, List.set_cons_zero, List.set_cons_succ, List.getElem_toArray, List.getElem_cons_zero, List.getElem_cons_succ]
                  obtain ⟨e1, he1⟩ : ∃ t, t = wr.heap.size := ⟨_, rfl⟩
                  obtain ⟨e2, he2⟩ : ∃ t, t = wr.heap.size + 1 := ⟨_, rfl⟩
                  obtain ⟨Z, hZ⟩ : ∃ Z, Z = ((wr.alloc (.cells #[.int .i64 0, .int .i64 0, .int .i64 0, .string ⟨#[]⟩, .string ⟨#[]⟩, .slice none 0 0, .int .i64 0] 34)).alloc (.cells #[.int .i64 0, .int .i64 0, .int .i64 0, .string ⟨#[]⟩, .string ⟨#[]⟩, .slice none 0 0, .int .i64 0] 34)).drew := ⟨_, rfl⟩
                  have hz1 : Z.heap[e1]? = some (.cells #[.int .i64 0, .int .i64 0, .int .i64 0, .string ⟨#[]⟩, .string ⟨#[]⟩, .slice none 0 0, .int .i64 0] 34) := by rw [hZ, he1]; exact blk_alloc (blk_at (w := wr) rfl) _
                  have hz2 : Z.heap[e2]? = some (.cells #[.int .i64 0, .int .i64 0, .int .i64 0, .string ⟨#[]⟩, .string ⟨#[]⟩, .slice none 0 0, .int .i64 0] 34) := by rw [hZ, he2]; exact blk_at (w := wr.alloc _) (by simp)
                  have hmz : Moved wr Z (fun _ => False) := by rw [hZ]; exact ((Moved.alloc wr _ (fun _ => False)).trans (Moved.alloc _ _ (fun _ => False)) (fun _ h => h.elim)).drew
                  have hne : e1 ≠ e2 := by omega
                  have hl1 : wr.heap.size ≤ e1 := by omega
                  have hl2 : wr.heap.size ≤ e2 := by omega
                  rw [← he2, ← he1, ← hZ]
                  rw [← hZ] at hS
                  clear he1 he2 hZ
                  obtain ⟨z0, z1, z2, z3, z4, z5, z6⟩ := cells7 hz1
                  have zf : ∀ i, Z.frozen? ⟨e1, i, none⟩ = false := fun i => frozen_of_row _ _ _ _ _ hz1
                  refine wpAnyH_ready (rs := [10]) (by kernel_rfl) (by simp) (AllReadyH.cons rfl (fun K hK => ?_) AllReadyH.nil)
                  rw [if_pos (by rfl)]
                  go_simp
                  have hy1 := set7_blk hz1 (.int .i64 zs) (.int .i64 ze) (.int .i64 1) (.string noStr) (.string noStr) (.slice (some ⟨tg, 0, none⟩) l.length cg) (.int .i64 zc)
                  have hmy : Moved wr (set7 Z e1 (.int .i64 zs) (.int .i64 ze) (.int .i64 1) (.string noStr) (.string noStr) (.slice (some ⟨tg, 0, none⟩) l.length cg) (.int .i64 zc)) (fun _ => False) := hmz.trans (set7_moved _ _ _ _ _ _ _ _ _) (fun b hb => .inr (by rw [hb]; exact hl1))
                  have hy2 := (set7_moved Z e1 (.int .i64 zs) (.int .i64 ze) (.int .i64 1) (.string noStr) (.string noStr) (.slice (some ⟨tg, 0, none⟩) l.length cg) (.int .i64 zc)).blk hz2 (by omega)
                  refine hK.out _ (set7 Z e1 (.int .i64 zs) (.int .i64 ze) (.int .i64 1) (.string noStr) (.string noStr) (.slice (some ⟨tg, 0, none⟩) l.length cg) (.int .i64 zc)) ⟨hmy.cell c0 (fun h => h), hmy.cell c1 (fun h => h), hmy.cell c2 (fun h => h), hmy.cell c3 (fun h => h), hmy.cell c4 (fun h => h), hmy.cell c5 (fun h => h), hmy.cell c6 (fun h => h), hmy.cell c7 (fun h => h), hmy.cell c8 (fun h => h), hmy.cell c9 (fun h => h), hmy.cell c10 (fun h => h), hmy.cell c11 (fun h => h), hmy.cell c12 (fun h => h), hmy.cell c13 (fun h => h)⟩ (fun hS => ?_)
                  clear hK K z0 z1 z2 z3 z4 z5 z6 zf hz1 hz2 hmz
                  generalize set7 Z e1 (.int .i64 zs) (.int .i64 ze) (.int .i64 1) (.string noStr) (.string noStr) (.slice (some ⟨tg, 0, none⟩) l.length cg) (.int .i64 zc) = Z2 at *
                  try simp only [Act.put, List.setIfInBounds_toArray, List.set_cons_zero, List.set_cons_succ, List.getElem_toArray, List.getElem_cons_zero, List.getElem_cons_succ]
                  obtain ⟨z0, z1, z2, z3, z4, z5, z6⟩ := cells7 hy2
                  have zf : ∀ i, Z2.frozen? ⟨e2, i, none⟩ = false := fun i => frozen_of_row _ _ _ _ _ hy2
                  refine wpAnyH_ready (rs := [11]) (by kernel_rfl) (by simp) (AllReadyH.cons rfl (fun K hK => ?_) AllReadyH.nil)
                  rw [if_pos (by rfl)]
                  go_simp
                  have hw2 := set7_blk hy2 (.int .i64 zs) (.int .i64 ze) (.int .i64 1) (.string noStr) (.string noStr) (.slice (some ⟨th, 0, none⟩) l.length ch) (.int .i64 zc)
                  have hmw2 : Moved wr (set7 Z2 e2 (.int .i64 zs) (.int .i64 ze) (.int .i64 1) (.string noStr) (.string noStr) (.slice (some ⟨th, 0, none⟩) l.length ch) (.int .i64 zc)) (fun _ => False) := hmy.trans (set7_moved _ _ _ _ _ _ _ _ _) (fun b hb => .inr (by rw [hb]; exact hl2))
                  have hw1 := (set7_moved Z2 e2 (.int .i64 zs) (.int .i64 ze) (.int .i64 1) (.string noStr) (.string noStr) (.slice (some ⟨th, 0, none⟩) l.length ch) (.int .i64 zc)).blk hy1 (by omega)
                  refine hK.out _ (set7 Z2 e2 (.int .i64 zs) (.int .i64 ze) (.int .i64 1) (.string noStr) (.string noStr) (.slice (some ⟨th, 0, none⟩) l.length ch) (.int .i64 zc)) ⟨hmw2.cell c0 (fun h => h), hmw2.cell c1 (fun h => h), hmw2.cell c2 (fun h => h), hmw2.cell c3 (fun h => h), hmw2.cell c4 (fun h => h), hmw2.cell c5 (fun h => h), hmw2.cell c6 (fun h => h), hmw2.cell c7 (fun h => h), hmw2.cell c8 (fun h => h), hmw2.cell c9 (fun h => h), hmw2.cell c10 (fun h => h), hmw2.cell c11 (fun h => h), hmw2.cell c12 (fun h => h), hmw2.cell c13 (fun h => h)⟩ (fun hS => ?_)
                  clear hK K z0 z1 z2 z3 z4 z5 z6 zf hy1 hy2 hmy
                  generalize set7 Z2 e2 (.int .i64 zs) (.int .i64 ze) (.int .i64 1) (.string noStr) (.string noStr) (.slice (some ⟨th, 0, none⟩) l.length ch) (.int .i64 zc) = Z3 at *
                  try simp only [Act.put, List.setIfInBounds_toArray, List.set_cons_zero, List.set_cons_succ, List.getElem_toArray, List.getElem_cons_zero, List.getElem_cons_succ]
                  refine wpAnyH_done (by kernel_rfl) ?_ _
                  clear hS hkS
                  go_simp
                  go_wp2_with fail
                  go_meet
                  exact ⟨e1, e2, rfl, rfl, hw1, hw2, hmw2⟩
                · rw [if_pos (by rfl)]
                  go_simp
                  refine hK.out _ _ (hkS _ _ hS) (fun hS => ?_)
                  clear hK K
                  try simp only [Act.put, List.setIfInBounds_toArray, List.set_cons_zero, List.set_cons_succ, List.getElem_toArray, List.getElem_cons_zero, List.getElem_cons_succ]
                  refine wpAnyH_ready (rs := [8]) (by kernel_rfl) (by simp) (AllReadyH.cons rfl (fun K hK => ?_) AllReadyH.nil)
                  rw [if_pos (by rfl)]
                  go_simp
                  refine hK.out _ _ (hkS _ _ hS) (fun hS => ?_)
                  clear hK K
                  try simp only [Act.put, List.setIfInBounds_toArray, List.set_cons_zero, List.set_cons_succ, List.getElem_toArray, List.getElem_cons_zero, List.getElem_cons_succ]
                  obtain ⟨e1, he1⟩ : ∃ t, t = wr.heap.size := ⟨_, rfl⟩
                  obtain ⟨e2, he2⟩ : ∃ t, t = wr.heap.size + 1 := ⟨_, rfl⟩
                  obtain ⟨Z, hZ⟩ : ∃ Z, Z = ((wr.alloc (.cells #[.int .i64 0, .int .i64 0, .int .i64 0, .string ⟨#[]⟩, .string ⟨#[]⟩, .slice none 0 0, .int .i64 0] 34)).alloc (.cells #[.int .i64 0, .int .i64 0, .int .i64 0, .string ⟨#[]⟩, .string ⟨#[]⟩, .slice none 0 0, .int .i64 0] 34)).drew := ⟨_, rfl⟩
                  have hz1 : Z.heap[e1]? = some (.cells #[.int .i64 0, .int .i64 0, .int .i64 0, .string ⟨#[]⟩, .string ⟨#[]⟩, .slice none 0 0, .int .i64 0] 34) := by rw [hZ, he1]; exact blk_alloc (blk_at (w := wr) rfl) _
                  have hz2 : Z.heap[e2]? = some (.cells #[.int .i64 0, .int .i64 0, .int .i64 0, .string ⟨#[]⟩, .string ⟨#[]⟩, .slice none 0 0, .int .i64 0] 34) := by rw [hZ, he2]; exact blk_at (w := wr.alloc _) (by simp)
                  have hmz : Moved wr Z (fun _ => False) := by rw [hZ]; exact ((Moved.alloc wr _ (fun _ => False)).trans (Moved.alloc _ _ (fun _ => False)) (fun _ h => h.elim)).drew
                  have hne : e1 ≠ e2 := by omega
                  have hl1 : wr.heap.size ≤ e1 := by omega
                  have hl2 : wr.heap.size ≤ e2 := by omega
                  rw [← he2, ← he1, ← hZ]
                  rw [← hZ] at hS
                  clear he1 he2 hZ
                  obtain ⟨z0, z1, z2, z3, z4, z5, z6⟩ := cells7 hz2
                  have zf : ∀ i, Z.frozen? ⟨e2, i, none⟩ = false := fun i => frozen_of_row _ _ _ _ _ hz2
                  refine wpAnyH_ready (rs := [10]) (by kernel_rfl) (by simp) (AllReadyH.cons rfl (fun K hK => ?_) AllReadyH.nil)
                  rw [if_pos (by rfl)]
                  go_simp
                  have hy1 := set7_blk hz2 (.int .i64 zs) (.int .i64 ze) (.int .i64 1) (.string noStr) (.string noStr) (.slice (some ⟨tg, 0, none⟩) l.length cg) (.int .i64 zc)
                  have hmy : Moved wr (set7 Z e2 (.int .i64 zs) (.int .i64 ze) (.int .i64 1) (.string noStr) (.string noStr) (.slice (some ⟨tg, 0, none⟩) l.length cg) (.int .i64 zc)) (fun _ => False) := hmz.trans (set7_moved _ _ _ _ _ _ _ _ _) (fun b hb => .inr (by rw [hb]; exact hl2))
                  have hy2 := (set7_moved Z e2 (.int .i64 zs) (.int .i64 ze) (.int .i64 1) (.string noStr) (.string noStr) (.slice (some ⟨tg, 0, none⟩) l.length cg) (.int .i64 zc)).blk hz1 (by omega)
                  refine hK.out _ (set7 Z e2 (.int .i64 zs) (.int .i64 ze) (.int .i64 1) (.string noStr) (.string noStr) (.slice (some ⟨tg, 0, none⟩) l.length cg) (.int .i64 zc)) ⟨hmy.cell c0 (fun h => h), hmy.cell c1 (fun h => h), hmy.cell c2 (fun h => h), hmy.cell c3 (fun h => h), hmy.cell c4 (fun h => h), hmy.cell c5 (fun h => h), hmy.cell c6 (fun h => h), hmy.cell c7 (fun h => h), hmy.cell c8 (fun h => h), hmy.cell c9 (fun h => h), hmy.cell c10 (fun h => h), hmy.cell c11 (fun h => h), hmy.cell c12 (fun h => h), hmy.cell c13 (fun h => h)⟩ (fun hS => ?_)
                  clear hK K z0 z1 z2 z3 z4 z5 z6 zf hz1 hz2 hmz
                  generalize set7 Z e2 (.int .i64 zs) (.int .i64 ze) (.int .i64 1) (.string noStr) (.string noStr) (.slice (some ⟨tg, 0, none⟩) l.length cg) (.int .i64 zc) = Z2 at *
                  try simp only [Act.put, List.setIfInBounds_toArray, List.set_cons_zero, List.set_cons_succ, List.getElem_toArray, List.getElem_cons_zero, List.getElem_cons_succ]
                  obtain ⟨z0, z1, z2, z3, z4, z5, z6⟩ := cells7 hy2
                  have zf : ∀ i, Z2.frozen? ⟨e1, i, none⟩ = false := fun i => frozen_of_row _ _ _ _ _ hy2
                  refine wpAnyH_ready (rs := [11]) (by kernel_rfl) (by simp) (AllReadyH.cons rfl (fun K hK => ?_) AllReadyH.nil)
                  rw [if_pos (by rfl)]
                  go_simp
                  have hw2 := set7_blk hy2 (.int .i64 zs) (.int .i64 ze) (.int .i64 1) (.string noStr) (.string noStr) (.slice (some ⟨th, 0, none⟩) l.length ch) (.int .i64 zc)
                  have hmw2 : Moved wr (set7 Z2 e1 (.int .i64 zs) (.int .i64 ze) (.int .i64 1) (.string noStr) (.string noStr) (.slice (some ⟨th, 0, none⟩) l.length ch) (.int .i64 zc)) (fun _ => False) := hmy.trans (set7_moved _ _ _ _ _ _ _ _ _) (fun b hb => .inr (by rw [hb]; exact hl1))
                  have hw1 := (set7_moved Z2 e1 (.int .i64 zs) (.int .i64 ze) (.int .i64 1) (.string noStr) (.string noStr) (.slice (some ⟨th, 0, none⟩) l.length ch) (.int .i64 zc)).blk hy1 (by omega)
                  refine hK.out _ (set7 Z2 e1 (.int .i64 zs) (.int .i64 ze) (.int .i64 1) (.string noStr) (.string noStr) (.slice (some ⟨th, 0, none⟩) l.length ch) (.int .i64 zc)) ⟨hmw2.cell c0 (fun h => h), hmw2.cell c1 (fun h => h), hmw2.cell c2 (fun h => h), hmw2.cell c3 (fun h => h), hmw2.cell c4 (fun h => h), hmw2.cell c5 (fun h => h), hmw2.cell c6 (fun h => h), hmw2.cell c7 (fun h => h), hmw2.cell c8 (fun h => h), hmw2.cell c9 (fun h => h), hmw2.cell c10 (fun h => h), hmw2.cell c11 (fun h => h), hmw2.cell c12 (fun h => h), hmw2.cell c13 (fun h => h)⟩ (fun hS => ?_)
                  clear hK K z0 z1 z2 z3 z4 z5 z6 zf hy1 hy2 hmy
                  generalize set7 Z2 e1 (.int .i64 zs) (.int .i64 ze) (.int .i64 1) (.string noStr) (.string noStr) (.slice (some ⟨th, 0, none⟩) l.length ch) (.int .i64 zc) = Z3 at *
                  try simp only [Act.put, List.setIfInBounds_toArray, List.set_cons_zero, List.set_cons_succ, List.getElem_toArray, List.getElem_cons_zero, List.getElem_cons_succ]
                  refine wpAnyH_done (by kernel_rfl) ?_ _
                  clear hS hkS
                  go_simp
                  go_wp2_with fail
                  go_meet
                  exact ⟨e2, e1, rfl, rfl, hw1, hw2, hmw2⟩
              case rest =>
                obtain ⟨t1, t2, rfl, rfl, hb1, hb2, hmy⟩ := hcut.out
                clear hcut c0 c1 c2 c3 c4 c5 c6 c7 c8 c9 c10 c11 c12 c13
                generalize wc = Y at *
                obtain ⟨f0, f1, f2, f3, f4, f5, f6⟩ := cells7 hb1
                obtain ⟨h0, h1, h2, h3, h4, h5, h6⟩ := cells7 hb2
                have hbe := beq_self (.inr l) (.int .i64 1) (.string noStr) (.string noStr) (.slice (some ⟨tg, 0, none⟩) l.length cg) (.int .i64 1) (.string noStr) (.string noStr) (.slice (some ⟨th, 0, none⟩) l.length ch) Y ⟨rfl, rfl, rfl, hl2, tg, cg, M, rfl, hTg.keep fun j v hc => hmy.cell hc (fun h => h), hmy.blk hMg (fun h => h)⟩ ⟨rfl, rfl, rfl, hl3, th, ch, M', rfl, hTh.keep fun j v hc => hmy.cell hc (fun h => h), hmy.blk hMh (fun h => h)⟩ (by omega)
                go_wp2_with (go_at_call 8; refine hbe.mono ?_)
                intro r Y2 hq2
                obtain ⟨rfl, hmq⟩ := hq2.out
                have hmz := (hmj.trans hmy (fun _ h => h.elim)).trans hmq (fun _ h => h.elim)
                clear hq2 hbe hmq hmy hb1 hb2
                go_wp2_with fail
                exact ⟨⟨j + 1, by omega, by simp, hmz⟩, by simp [intOf]; omega⟩
          · have hje : vs.length = j := by omega
            have hmX : Moved w wr (fun _ => False) := hmw.trans hmj (fun _ h => h.elim)
            have hinX := hinw.moved hmj
            have hsrX := hsrw.moved hmj
            go_wp2_with (go_at_call 4; refine (build_any p n cap T _ HP.out hinX hn).mono ?_)
            intro r X2 hq
            obtain ⟨fp, fc, rfl, hfs, hmf⟩ := hq.out
            have hs2 := hsrX.moved hmf
            have hm2 : Moved w X2 (fun _ => False) := hmX.trans hmf (fun _ h => h.elim)
            clear hq hsrX hinX hmX hmf hmj hje hjl
            go_wp2_with fail
            go_loopw [170] (fun i y => Hid (∃ j : Nat, j ≤ n ∧ i = .int .i64 (j : Int) ∧ Moved X2 y (fun _ => False))) (fun i _ => n - (intOf i).toNat)
            case atStart => exact ⟨0, by omega, rfl, Moved.refl _ _⟩
            case round =>
              obtain ⟨i, hi, rfl, hmi⟩ := hrel.out
              clear hrel
              by_cases hil : i < n
              · obtain ⟨g1, rfl, ht1⟩ := hfs.moved hmi i hil
                obtain ⟨g2, rfl, ht2⟩ := hs2.moved hmi i hil
                generalize (T i).s = zs at *
                generalize (T i).e = ze at *
                generalize (T i).ex = e at *
                generalize (T i).c = zc at *
                obtain ⟨c0, c1, c2, c3, c4, c5, c6⟩ := ht1
                obtain ⟨c7, c8, c9, c10, c11, c12, c13⟩ := ht2
                go_upto_region 47 with fail
                go_cut [18, 19] from 173 to 180 (fun va vb y => Hid (∃ t1 t2, va = .pointer (some ⟨t1, 0, none⟩) ∧ vb = .pointer (some ⟨t2, 0, none⟩) ∧ y.heap[t1]? = some (.cells #[.int .i64 zs, .int .i64 ze, .int .i64 0, .string e.1, .string e.2, .slice none 0 0, .int .i64 zc] 34) ∧ y.heap[t2]? = some (.cells #[.int .i64 zs, .int .i64 ze, .int .i64 0, .string e.1, .string e.2, .slice none 0 0, .int .i64 zc] 34) ∧ Moved wr y (fun _ => False)))
                case first =>
                  have hkS : ∀ (W : World) (o : Obj), (W.cell? ⟨g1, i * 7, none⟩ = some (.int .i64 zs) ∧ W.cell? ⟨g1, i * 7 + 1, none⟩ = some (.int .i64 ze) ∧ W.cell? ⟨g1, i * 7 + 2, none⟩ = some (.int .i64 0) ∧ W.cell? ⟨g1, i * 7 + 3, none⟩ = some (.string e.1) ∧ W.cell? ⟨g1, i * 7 + 4, none⟩ = some (.string e.2) ∧ W.cell? ⟨g1, i * 7 + 5, none⟩ = some (.slice none 0 0) ∧ W.cell? ⟨g1, i * 7 + 6, none⟩ = some (.int .i64 zc) ∧ W.cell? ⟨g2, i * 7, none⟩ = some (.int .i64 zs) ∧ W.cell? ⟨g2, i * 7 + 1, none⟩ = some (.int .i64 ze) ∧ W.cell? ⟨g2, i * 7 + 2, none⟩ = some (.int .i64 0) ∧ W.cell? ⟨g2, i * 7 + 3, none⟩ = some (.string e.1) ∧ W.cell? ⟨g2, i * 7 + 4, none⟩ = some (.string e.2) ∧ W.cell? ⟨g2, i * 7 + 5, none⟩ = some (.slice none 0 0) ∧ W.cell? ⟨g2, i * 7 + 6, none⟩ = some (.int .i64 zc)) → ((W.alloc o).cell? ⟨g1, i * 7, none⟩ = some (.int .i64 zs) ∧ (W.alloc o).cell? ⟨g1, i * 7 + 1, none⟩ = some (.int .i64 ze) ∧ (W.alloc o).cell? ⟨g1, i * 7 + 2, none⟩ = some (.int .i64 0) ∧ (W.alloc o).cell? ⟨g1, i * 7 + 3, none⟩ = some (.string e.1) ∧ (W.alloc o).cell? ⟨g1, i * 7 + 4, none⟩ = some (.string e.2) ∧ (W.alloc o).cell? ⟨g1, i * 7 + 5, none⟩ = some (.slice none 0 0) ∧ (W.alloc o).cell? ⟨g1, i * 7 + 6, none⟩ = some (.int .i64 zc) ∧ (W.alloc o).cell? ⟨g2, i * 7, none⟩ = some (.int .i64 zs) ∧ (W.alloc o).cell? ⟨g2, i * 7 + 1, none⟩ = some (.int .i64 ze) ∧ (W.alloc o).cell? ⟨g2, i * 7 + 2, none⟩ = some (.int .i64 0) ∧ (W.alloc o).cell? ⟨g2, i * 7 + 3, none⟩ = some (.string e.1) ∧ (W.alloc o).cell? ⟨g2, i * 7 + 4, none⟩ = some (.string e.2) ∧ (W.alloc o).cell? ⟨g2, i * 7 + 5, none⟩ = some (.slice none 0 0) ∧ (W.alloc o).cell? ⟨g2, i * 7 + 6, none⟩ = some (.int .i64 zc)) := fun W o ⟨s0, s1, s2, s3, s4, s5, s6, s7, s8, s9, s10, s11, s12, s13⟩ => ⟨by rw [World.cell?_alloc_lt _ _ _ (World.block_lt_of_cell? W _ s0)]; exact s0, by rw [World.cell?_alloc_lt _ _ _ (World.block_lt_of_cell? W _ s1)]; exact s1, by rw [World.cell?_alloc_lt _ _ _ (World.block_lt_of_cell? W _ s2)]; exact s2, by rw [World.cell?_alloc_lt _ _ _ (World.block_lt_of_cell? W _ s3)]; exact s3, by rw [World.cell?_alloc_lt _ _ _ (World.block_lt_of_cell? W _ s4)]; exact s4, by rw [World.cell?_alloc_lt _ _ _ (World.block_lt_of_cell? W _ s5)]; exact s5, by rw [World.cell?_alloc_lt _ _ _ (World.block_lt_of_cell? W _ s6)]; exact s6, by rw [World.cell?_alloc_lt _ _ _ (World.block_lt_of_cell? W _ s7)]; exact s7, by rw [World.cell?_alloc_lt _ _ _ (World.block_lt_of_cell? W _ s8)]; exact s8, by rw [World.cell?_alloc_lt _ _ _ (World.block_lt_of_cell? W _ s9)]; exact s9, by rw [World.cell?_alloc_lt _ _ _ (World.block_lt_of_cell? W _ s10)]; exact s10, by rw [World.cell?_alloc_lt _ _ _ (World.block_lt_of_cell? W _ s11)]; exact s11, by rw [World.cell?_alloc_lt _ _ _ (World.block_lt_of_cell? W _ s12)]; exact s12, by rw [World.cell?_alloc_lt _ _ _ (World.block_lt_of_cell? W _ s13)]; exact s13⟩
                  refine wp_region_s (S := fun w' => w'.cell? ⟨g1, i * 7, none⟩ = some (.int .i64 zs) ∧ w'.cell? ⟨g1, i * 7 + 1, none⟩ = some (.int .i64 ze) ∧ w'.cell? ⟨g1, i * 7 + 2, none⟩ = some (.int .i64 0) ∧ w'.cell? ⟨g1, i * 7 + 3, none⟩ = some (.string e.1) ∧ w'.cell? ⟨g1, i * 7 + 4, none⟩ = some (.string e.2) ∧ w'.cell? ⟨g1, i * 7 + 5, none⟩ = some (.slice none 0 0) ∧ w'.cell? ⟨g1, i * 7 + 6, none⟩ = some (.int .i64 zc) ∧ w'.cell? ⟨g2, i * 7, none⟩ = some (.int .i64 zs) ∧ w'.cell? ⟨g2, i * 7 + 1, none⟩ = some (.int .i64 ze) ∧ w'.cell? ⟨g2, i * 7 + 2, none⟩ = some (.int .i64 0) ∧ w'.cell? ⟨g2, i * 7 + 3, none⟩ = some (.string e.1) ∧ w'.cell? ⟨g2, i * 7 + 4, none⟩ = some (.string e.2) ∧ w'.cell? ⟨g2, i * 7 + 5, none⟩ = some (.slice none 0 0) ∧ w'.cell? ⟨g2, i * 7 + 6, none⟩ = some (.int .i64 zc)) (by kernel_rfl) ⟨c0, c1, c2, c3, c4, c5, c6, c7, c8, c9, c10, c11, c12, c13⟩ (fun hS => ?_)
                  refine wpAnyH_take (i := 0) (v := .slice (some ⟨g1, 0, none⟩) n fc) rfl (by kernel_rfl) (by kernel_rfl) (by kernel_rfl) (fun _ _ _ h => h) (Or.inl ⟨by rfl, fun W hW => ?_⟩) hS ?_
                  · obtain ⟨s0, s1, s2, s3, s4, s5, s6, s7, s8, s9, s10, s11, s12, s13⟩ := hW
                    go_simp
                  try simp only [Act.put, List.setIfInBounds_toArray, List.set_cons_zero, List.set_cons_succ, List.getElem_toArray, List.getElem_cons_zero, List.getElem_cons_succ]
                  refine wpAnyH_take (i := 1) (v := .int .i64 (i : Int)) rfl (by kernel_rfl) (by kernel_rfl) (by kernel_rfl) (fun _ _ _ h => h) (Or.inl ⟨by rfl, fun W hW => ?_⟩) hS ?_
                  · obtain ⟨s0, s1, s2, s3, s4, s5, s6, s7, s8, s9, s10, s11, s12, s13⟩ := hW
                    go_simp
                  try simp only [Act.put, List.setIfInBounds_toArray, List.set_cons_zero, List.set_cons_succ, List.getElem_toArray, List.getElem_cons_zero, List.getElem_cons_succ]
                  refine wpAnyH_take (i := 2) (v := .pointer (some ⟨g1, i * 7, none⟩)) rfl (by kernel_rfl) (by kernel_rfl) (by kernel_rfl) (fun _ _ _ h => h) (Or.inl ⟨by rfl, fun W hW => ?_⟩) hS ?_
                  · obtain ⟨s0, s1, s2, s3, s4, s5, s6, s7, s8, s9, s10, s11, s12, s13⟩ := hW
                    go_simp
                  try simp only [Act.put, List.setIfInBounds_toArray, List.set_cons_zero, List.set_cons_succ, List.getElem_toArray, List.getElem_cons_zero, List.getElem_cons_succ]
                  refine wpAnyH_take (i := 3) (v := .agg #[.int .i64 zs, .int .i64 ze, .int .i64 0, .string e.1, .string e.2, .slice none 0 0, .int .i64 zc]) rfl (by kernel_rfl) (by kernel_rfl) (by kernel_rfl) (fun _ _ _ h => h) (Or.inl ⟨by rfl, fun W hW => ?_⟩) hS ?_
                  · obtain ⟨s0, s1, s2, s3, s4, s5, s6, s7, s8, s9, s10, s11, s12, s13⟩ := hW
                    go_simp
                  try simp only [Act.put, List.setIfInBounds_toArray, List.set_cons_zero, List.set_cons_succ, List.getElem_toArray, List.getElem_cons_zero, List.getElem_cons_succ]
                  refine wpAnyH_take (i := 4) (v := .slice (some ⟨g2, 0, none⟩) n cp) rfl (by kernel_rfl) (by kernel_rfl) (by kernel_rfl) (fun _ _ _ h => h) (Or.inl ⟨by rfl, fun W hW => ?_⟩) hS ?_
                  · obtain ⟨s0, s1, s2, s3, s4, s5, s6, s7, s8, s9, s10, s11, s12, s13⟩ := hW
                    go_simp
                  try simp only [Act.put, List.setIfInBounds_toArray, List.set_cons_zero, List.set_cons_succ, List.getElem_toArray, List.getElem_cons_zero, List.getElem_cons_succ]
                  refine wpAnyH_take (i := 5) (v := .int .i64 (i : Int)) rfl (by kernel_rfl) (by kernel_rfl) (by kernel_rfl) (fun _ _ _ h => h) (Or.inl ⟨by rfl, fun W hW => ?_⟩) hS ?_
                  · obtain ⟨s0, s1, s2, s3, s4, s5, s6, s7, s8, s9, s10, s11, s12, s13⟩ := hW
                    go_simp
                  try simp only [Act.put, List.setIfInBounds_toArray, List.set_cons_zero, List.set_cons_succ, List.getElem_toArray, List.getElem_cons_zero, List.getElem_cons_succ]
                  refine wpAnyH_take (i := 6) (v := .pointer (some ⟨g2, i * 7, none⟩)) rfl (by kernel_rfl) (by kernel_rfl) (by kernel_rfl) (fun _ _ _ h => h) (Or.inl ⟨by rfl, fun W hW => ?_⟩) hS ?_
                  · obtain ⟨s0, s1, s2, s3, s4, s5, s6, s7, s8, s9, s10, s11, s12, s13⟩ := hW
                    go_simp
                  try simp only [Act.put, List.setIfInBounds_toArray, List.set_cons_zero, List.set_cons_succ, List.getElem_toArray, List.getElem_cons_zero, List.getElem_cons_succ]
                  refine wpAnyH_take (i := 7) (v := .agg #[.int .i64 zs, .int .i64 ze, .int .i64 0, .string e.1, .string e.2, .slice none 0 0, .int .i64 zc]) rfl (by kernel_rfl) (by kernel_rfl) (by kernel_rfl) (fun _ _ _ h => h) (Or.inl ⟨by rfl, fun W hW => ?_⟩) hS ?_
                  · obtain ⟨s0, s1, s2, s3, s4, s5, s6, s7, s8, s9, s10, s11, s12, s13⟩ := hW
                    go_simp
                  try simp only [Act.put, List.setIfInBounds_toArray, List.set_cons_zero, List.set_cons_succ, List.getElem_toArray, List.getElem_cons_zero, List.getElem_cons_succ]
                  refine wpAnyH_ready (rs := [8, 9]) (by kernel_rfl) (by simp) (AllReadyH.cons rfl (fun K hK => ?_) (AllReadyH.cons rfl (fun K hK => ?_) AllReadyH.nil))
                  · rw [if_pos (by rfl)]
                    go_simp
                    refine hK.out _ _ (hkS _ _ hS) (fun hS => ?_)
                    clear hK K
                    try simp only [Act.put, List.setIfInBounds_toArray, List.set_cons_zero, List.set_cons_succ, List.getElem_toArray, List.getElem_cons_zero, List.getElem_cons_succ]
                    refine wpAnyH_ready (rs := [9]) (by kernel_rfl) (by simp) (AllReadyH.cons rfl (fun K hK => ?_) AllReadyH.nil)
                    rw [if_pos (by rfl)]
                    go_simp
                    refine hK.out _ _ (hkS _ _ hS) (fun hS => ?_)
                    clear hK K
                    try simp only [Act.put, List.setIfInBounds_toArray, List.set_cons_zero, List.set_cons_succ, List.getElem_toArray, List.getElem_cons_zero, List.getElem_cons_succ]
                    obtain ⟨e1, he1⟩ : ∃ t, t = wr.heap.size := ⟨_, rfl⟩
                    obtain ⟨e2, he2⟩ : ∃ t, t = wr.heap.size + 1 := ⟨_, rfl⟩
                    obtain ⟨Z, hZ⟩ : ∃ Z, Z = ((wr.alloc (.cells #[.int .i64 0, .int .i64 0, .int .i64 0, .string ⟨#[]⟩, .string ⟨#[]⟩, .slice none 0 0, .int .i64 0] 34)).alloc (.cells #[.int .i64 0, .int .i64 0, .int .i64 0, .string ⟨#[]⟩, .string ⟨#[]⟩, .slice none 0 0, .int .i64 0] 34)).drew := ⟨_, rfl⟩
                    have hz1 : Z.heap[e1]? = some (.cells #[.int .i64 0, .int .i64 0, .int .i64 0, .string ⟨#[]⟩, .string ⟨#[]⟩, .slice none 0 0, .int .i64 0] 34) := by rw [hZ, he1]; exact blk_alloc (blk_at (w := wr) rfl) _
                    have hz2 : Z.heap[e2]? = some (.cells #[.int .i64 0, .int .i64 0, .int .i64 0, .string ⟨#[]⟩, .string ⟨#[]⟩, .slice none 0 0, .int .i64 0] 34) := by rw [hZ, he2]; exact blk_at (w := wr.alloc _) (by simp)
                    have hmz : Moved wr Z (fun _ => False) := by rw [hZ]; exact ((Moved.alloc wr _ (fun _ => False)).trans (Moved.alloc _ _ (fun _ => False)) (fun _ h => h.elim)).drew
                    have hne : e1 ≠ e2 := by omega
                    have hl1 : wr.heap.size ≤ e1 := by omega
                    have hl2 : wr.heap.size ≤ e2 := by omega
                    rw [← he2, ← he1, ← hZ]
                    rw [← hZ] at hS
                    clear he1 he2 hZ
                    obtain ⟨z0, z1, z2, z3, z4, z5, z6⟩ := cells7 hz1
                    have zf : ∀ i, Z.frozen? ⟨e1, i, none⟩ = false := fun i => frozen_of_row _ _ _ _ _ hz1
                    refine wpAnyH_ready (rs := [10]) (by kernel_rfl) (by simp) (AllReadyH.cons rfl (fun K hK => ?_) AllReadyH.nil)
                    rw [if_pos (by rfl)]
                    go_simp
                    have hy1 := set7_blk hz1 (.int .i64 zs) (.int .i64 ze) (.int .i64 0) (.string e.1) (.string e.2) (.slice none 0 0) (.int .i64 zc)
                    have hmy : Moved wr (set7 Z e1 (.int .i64 zs) (.int .i64 ze) (.int .i64 0) (.string e.1) (.string e.2) (.slice none 0 0) (.int .i64 zc)) (fun _ => False) := hmz.trans (set7_moved _ _ _ _ _ _ _ _ _) (fun b hb => .inr (by rw [hb]; exact hl1))
                    have hy2 := (set7_moved Z e1 (.int .i64 zs) (.int .i64 ze) (.int .i64 0) (.string e.1) (.string e.2) (.slice none 0 0) (.int .i64 zc)).blk hz2 (by omega)
                    refine hK.out _ (set7 Z e1 (.int .i64 zs) (.int .i64 ze) (.int .i64 0) (.string e.1) (.string e.2) (.slice none 0 0) (.int .i64 zc)) ⟨hmy.cell c0 (fun h => h), hmy.cell c1 (fun h => h), hmy.cell c2 (fun h => h), hmy.cell c3 (fun h => h), hmy.cell c4 (fun h => h), hmy.cell c5 (fun h => h), hmy.cell c6 (fun h => h), hmy.cell c7 (fun h => h), hmy.cell c8 (fun h => h), hmy.cell c9 (fun h => h), hmy.cell c10 (fun h => h), hmy.cell c11 (fun h => h), hmy.cell c12 (fun h => h), hmy.cell c13 (fun h => h)⟩ (fun hS => ?_)
                    clear hK K z0 z1 z2 z3 z4 z5 z6 zf hz1 hz2 hmz
                    generalize set7 Z e1 (.int .i64 zs) (.int .i64 ze) (.int .i64 0) (.string e.1) (.string e.2) (.slice none 0 0) (.int .i64 zc) = Z2 at *
                    try simp only [Act.put, List.setIfInBounds_toArray, List.set_cons_zero, List.set_cons_succ, List.getElem_toArray, List.getElem_cons_zero, List.getElem_cons_succ]
                    obtain ⟨z0, z1, z2, z3, z4, z5, z6⟩ := cells7 hy2
                    have zf : ∀ i, Z2.frozen? ⟨e2, i, none⟩ = false := fun i => frozen_of_row _ _ _ _ _ hy2
                    refine wpAnyH_ready (rs := [11]) (by kernel_rfl) (by simp) (AllReadyH.cons rfl (fun K hK => ?_) AllReadyH.nil)
                    rw [if_pos (by rfl)]
                    go_simp
                    have hw2 := set7_blk hy2 (.int .i64 zs) (.int .i64 ze) (.int .i64 0) (.string e.1) (.string e.2) (.slice none 0 0) (.int .i64 zc)
                    have hmw2 : Moved wr (set7 Z2 e2 (.int .i64 zs) (.int .i64 ze) (.int .i64 0) (.string e.1) (.string e.2) (.slice none 0 0) (.int .i64 zc)) (fun _ => False) := hmy.trans (set7_moved _ _ _ _ _ _ _ _ _) (fun b hb => .inr (by rw [hb]; exact hl2))
                    have hw1 := (set7_moved Z2 e2 (.int .i64 zs) (.int .i64 ze) (.int .i64 0) (.string e.1) (.string e.2) (.slice none 0 0) (.int .i64 zc)).blk hy1 (by omega)
                    refine hK.out _ (set7 Z2 e2 (.int .i64 zs) (.int .i64 ze) (.int .i64 0) (.string e.1) (.string e.2) (.slice none 0 0) (.int .i64 zc)) ⟨hmw2.cell c0 (fun h => h), hmw2.cell c1 (fun h => h), hmw2.cell c2 (fun h => h), hmw2.cell c3 (fun h => h), hmw2.cell c4 (fun h => h), hmw2.cell c5 (fun h => h), hmw2.cell c6 (fun h => h), hmw2.cell c7 (fun h => h), hmw2.cell c8 (fun h => h), hmw2.cell c9 (fun h => h), hmw2.cell c10 (fun h => h), hmw2.cell c11 (fun h => h), hmw2.cell c12 (fun h => h), hmw2.cell c13 (fun h => h)⟩ (fun hS => ?_)
                    clear hK K z0 z1 z2 z3 z4 z5 z6 zf hy1 hy2 hmy
                    generalize set7 Z2 e2 (.int .i64 zs) (.int .i64 ze) (.int .i64 0) (.string e.1) (.string e.2) (.slice none 0 0) (.int .i64 zc) = Z3 at *
                    try simp only [Act.put, List.setIfInBounds_toArray, List.set_cons_zero, List.set_cons_succ, List.getElem_toArray, List.getElem_cons_zero, List.getElem_cons_succ]
                    refine wpAnyH_done (by kernel_rfl) ?_ _
                    clear hS hkS
                    go_simp
                    go_wp2_with fail
                    go_meet
                    exact ⟨e1, e2, rfl, rfl, hw1, hw2, hmw2⟩
                  · rw [if_pos (by rfl)]
                    go_simp
                    refine hK.out _ _ (hkS _ _ hS) (fun hS => ?_)
                    clear hK K
                    try simp only [Act.put, List.setIfInBounds_toArray, List.set_cons_zero, List.set_cons_succ, List.getElem_toArray, List.getElem_cons_zero, List.getElem_cons_succ]
                    refine wpAnyH_ready (rs := [8]) (by kernel_rfl) (by simp) (AllReadyH.cons rfl (fun K hK => ?_) AllReadyH.nil)
                    rw [if_pos (by rfl)]
                    go_simp
                    refine hK.out _ _ (hkS _ _ hS) (fun hS => ?_)
                    clear hK K
                    try simp only [Act.put, List.setIfInBounds_toArray, List.set_cons_zero, List.set_cons_succ, List.getElem_toArray, List.getElem_cons_zero, List.getElem_cons_succ]
                    obtain ⟨e1, he1⟩ : ∃ t, t = wr.heap.size := ⟨_, rfl⟩
                    obtain ⟨e2, he2⟩ : ∃ t, t = wr.heap.size + 1 := ⟨_, rfl⟩
                    obtain ⟨Z, hZ⟩ : ∃ Z, Z = ((wr.alloc (.cells #[.int .i64 0, .int .i64 0, .int .i64 0, .string ⟨#[]⟩, .string ⟨#[]⟩, .slice none 0 0, .int .i64 0] 34)).alloc (.cells #[.int .i64 0, .int .i64 0, .int .i64 0, .string ⟨#[]⟩, .string ⟨#[]⟩, .slice none 0 0, .int .i64 0] 34)).drew := ⟨_, rfl⟩
                    have hz1 : Z.heap[e1]? = some (.cells #[.int .i64 0, .int .i64 0, .int .i64 0, .string ⟨#[]⟩, .string ⟨#[]⟩, .slice none 0 0, .int .i64 0] 34) := by rw [hZ, he1]; exact blk_alloc (blk_at (w := wr) rfl) _
                    have hz2 : Z.heap[e2]? = some (.cells #[.int .i64 0, .int .i64 0, .int .i64 0, .string ⟨#[]⟩, .string ⟨#[]⟩, .slice none 0 0, .int .i64 0] 34) := by rw [hZ, he2]; exact blk_at (w := wr.alloc _) (by simp)
                    have hmz : Moved wr Z (fun _ => False) := by rw [hZ]; exact ((Moved.alloc wr _ (fun _ => False)).trans (Moved.alloc _ _ (fun _ => False)) (fun _ h => h.elim)).drew
                    have hne : e1 ≠ e2 := by omega
                    have hl1 : wr.heap.size ≤ e1 := by omega
                    have hl2 : wr.heap.size ≤ e2 := by omega
                    rw [← he2, ← he1, ← hZ]
                    rw [← hZ] at hS
                    clear he1 he2 hZ
                    obtain ⟨z0, z1, z2, z3, z4, z5, z6⟩ := cells7 hz2
                    have zf : ∀ i, Z.frozen? ⟨e2, i, none⟩ = false := fun i => frozen_of_row _ _ _ _ _ hz2
                    refine wpAnyH_ready (rs := [10]) (by kernel_rfl) (by simp) (AllReadyH.cons rfl (fun K hK => ?_) AllReadyH.nil)
                    rw [if_pos (by rfl)]
                    go_simp
                    have hy1 := set7_blk hz2 (.int .i64 zs) (.int .i64 ze) (.int .i64 0) (.string e.1) (.string e.2) (.slice none 0 0) (.int .i64 zc)
                    have hmy : Moved wr (set7 Z e2 (.int .i64 zs) (.int .i64 ze) (.int .i64 0) (.string e.1) (.string e.2) (.slice none 0 0) (.int .i64 zc)) (fun _ => False) := hmz.trans (set7_moved _ _ _ _ _ _ _ _ _) (fun b hb => .inr (by rw [hb]; exact hl2))
                    have hy2 := (set7_moved Z e2 (.int .i64 zs) (.int .i64 ze) (.int .i64 0) (.string e.1) (.string e.2) (.slice none 0 0) (.int .i64 zc)).blk hz1 (by omega)
                    refine hK.out _ (set7 Z e2 (.int .i64 zs) (.int .i64 ze) (.int .i64 0) (.string e.1) (.string e.2) (.slice none 0 0) (.int .i64 zc)) ⟨hmy.cell c0 (fun h => h), hmy.cell c1 (fun h => h), hmy.cell c2 (fun h => h), hmy.cell c3 (fun h => h), hmy.cell c4 (fun h => h), hmy.cell c5 (fun h => h), hmy.cell c6 (fun h => h), hmy.cell c7 (fun h => h), hmy.cell c8 (fun h => h), hmy.cell c9 (fun h => h), hmy.cell c10 (fun h => h), hmy.cell c11 (fun h => h), hmy.cell c12 (fun h => h), hmy.cell c13 (fun h => h)⟩ (fun hS => ?_)
                    clear hK K z0 z1 z2 z3 z4 z5 z6 zf hz1 hz2 hmz
                    generalize set7 Z e2 (.int .i64 zs) (.int .i64 ze) (.int .i64 0) (.string e.1) (.string e.2) (.slice none 0 0) (.int .i64 zc) = Z2 at *
                    try simp only [Act.put, List.setIfInBounds_toArray, List.set_cons_zero, List.set_cons_succ, List.getElem_toArray, List.getElem_cons_zero, List.getElem_cons_succ]
                    obtain ⟨z0, z1, z2, z3, z4, z5, z6⟩ := cells7 hy2
                    have zf : ∀ i, Z2.frozen? ⟨e1, i, none⟩ = false := fun i => frozen_of_row _ _ _ _ _ hy2
                    refine wpAnyH_ready (rs := [11]) (by kernel_rfl) (by simp) (AllReadyH.cons rfl (fun K hK => ?_) AllReadyH.nil)
                    rw [if_pos (by rfl)]
                    go_simp
                    have hw2 := set7_blk hy2 (.int .i64 zs) (.int .i64 ze) (.int .i64 0) (.string e.1) (.string e.2) (.slice none 0 0) (.int .i64 zc)
                    have hmw2 : Moved wr (set7 Z2 e1 (.int .i64 zs) (.int .i64 ze) (.int .i64 0) (.string e.1) (.string e.2) (.slice none 0 0) (.int .i64 zc)) (fun _ => False) := hmy.trans (set7_moved _ _ _ _ _ _ _ _ _) (fun b hb => .inr (by rw [hb]; exact hl1))
                    have hw1 := (set7_moved Z2 e1 (.int .i64 zs) (.int .i64 ze) (.int .i64 0) (.string e.1) (.string e.2) (.slice none 0 0) (.int .i64 zc)).blk hy1 (by omega)
                    refine hK.out _ (set7 Z2 e1 (.int .i64 zs) (.int .i64 ze) (.int .i64 0) (.string e.1) (.string e.2) (.slice none 0 0) (.int .i64 zc)) ⟨hmw2.cell c0 (fun h => h), hmw2.cell c1 (fun h => h), hmw2.cell c2 (fun h => h), hmw2.cell c3 (fun h => h), hmw2.cell c4 (fun h => h), hmw2.cell c5 (fun h => h), hmw2.cell c6 (fun h => h), hmw2.cell c7 (fun h => h), hmw2.cell c8 (fun h => h), hmw2.cell c9 (fun h => h), hmw2.cell c10 (fun h => h), hmw2.cell c11 (fun h => h), hmw2.cell c12 (fun h => h), hmw2.cell c13 (fun h => h)⟩ (fun hS => ?_)
                    clear hK K z0 z1 z2 z3 z4 z5 z6 zf hy1 hy2 hmy
                    generalize set7 Z2 e1 (.int .i64 zs) (.int .i64 ze) (.int .i64 0) (.string e.1) (.string e.2) (.slice none 0 0) (.int .i64 zc) = Z3 at *
                    try simp only [Act.put, List.setIfInBounds_toArray, List.set_cons_zero, List.set_cons_succ, List.getElem_toArray, List.getElem_cons_zero, List.getElem_cons_succ]
                    refine wpAnyH_done (by kernel_rfl) ?_ _
                    clear hS hkS
                    go_simp
                    go_wp2_with fail
                    go_meet
                    exact ⟨e2, e1, rfl, rfl, hw1, hw2, hmw2⟩
                case rest =>
                  obtain ⟨t1, t2, rfl, rfl, hb1, hb2, hmy⟩ := hcut.out
                  clear hcut c0 c1 c2 c3 c4 c5 c6 c7 c8 c9 c10 c11 c12 c13
                  generalize wc = Y at *
                  obtain ⟨f0, f1, f2, f3, f4, f5, f6⟩ := cells7 hb1
                  obtain ⟨h0, h1, h2, h3, h4, h5, h6⟩ := cells7 hb2
                  have hbe := beq_self (.inl e) (.int .i64 0) (.string e.1) (.string e.2) (.slice none 0 0) (.int .i64 0) (.string e.1) (.string e.2) (.slice none 0 0) Y ⟨rfl, rfl, rfl, rfl⟩ ⟨rfl, rfl, rfl, rfl⟩ (by simp [flat])
                  go_wp2_with (go_at_call 8; refine hbe.mono ?_)
                  intro r Y2 hq2
                  obtain ⟨rfl, hmq⟩ := hq2.out
                  have hmz := (hmi.trans hmy (fun _ h => h.elim)).trans hmq (fun _ h => h.elim)
                  clear hq2 hbe hmq hmy hb1 hb2
                  go_wp2_with fail
                  exact ⟨⟨i + 1, by omega, by simp, hmz⟩, by simp [intOf]; omega⟩
              · have hie : n = i := by omega
                subst hie
                have hend : Moved w wr (fun _ => False) := hm2.trans hmi (fun _ h => h.elim)
                go_wp2_with fail
                go_ret
                exact ⟨rfl, hend⟩
end Go.Proofs.YbulkexpecFmt
