/- LawS194114CWhole (function 5): the walk. -/
import Derived.Test.YbulkexpbyReg47
namespace Go.Proofs.Ybulkexpby
open Go.RowKit Go.PK Go.SM Go.RegInv
set_option linter.unusedVariables false

set_option maxHeartbeats 40000000 in
set_option maxRecDepth 100000 in
theorem lawC_small (a0 a2 a3 a4 : Option Addr) (n0 c0 n2 c2 n3 c3 n4 c4 : Nat) (lk by_ : Int) (odd : Bool) (N fs ks vs : Nat → ByteArray) (Af : Nat → Int) (w : World) (hsum : n0 + n2 + n3 + n4 ≤ 4096)
    (hlk : 0 ≤ lk ∧ lk ≤ 255) (hpre : PreC w a0 n0 N Af) (hfs : StrsAt w (.slice a2 n2 c2) n2 fs) (hks : StrsAt w (.slice a3 n3 c3) n3 ks) (hvs : StrsAt w (.slice a4 n4 c4) n4 vs) :
    Calls Yba.prog 5 #[.slice a0 n0 c0, .int .u8 lk, .slice a2 n2 c2, .slice a3 n3 c3, .slice a4 n4 c4, .bool odd, .int .i64 by_] w fun e w' => e = .returned (.bool true) ∧ Below w.heap.size w w' := by
  have hd : decide ((4096 : Int) < (n0 : Int) + n2 + n3 + n4) = false := by simp; omega
  have Hpre : Hid (PreC w a0 n0 N Af) := hpre
  have hmm := @run_makeMap Yba.prog
  obtain ⟨nl, hnl⟩ : ∃ nl : Nat, lk % 8 = (nl : Int) := ⟨(lk % 8).toNat, by omega⟩
  have hnl7 : nl ≤ 7 := by omega
  clear hpre
  obtain ⟨vb, hvb⟩ : ∃ vb, vb = w.heap.size := ⟨_, rfl⟩
  go_enter Yba.func5, Yba.ntmps5
  go_upto_if 71 with fail
  rw [← hvb, hnl]
  clear hnl hlk
  go_cut [] from 69 to 75 (fun x => ∃ sv, St1 w x vb n0 by_ sv (.slice none 0 0) (.slice none 0 0) [])
  case first =>
    rcases Nat.eq_zero_or_pos n0 with h0 | h0
    · have hi : decide ((0 : Int) < (n0 : Int)) = false := by simp; omega
      go_wp2_with fail
      go_meet
      exact ⟨.map none, ⟨blk_at hvb, Nat.le_of_eq hvb.symm, .inl ⟨rfl, rfl⟩, fun s e => Value.noConfusion e (fun e => nomatch e), fun _ => rfl, fun h => absurd h (by omega), World.ownsRow_nil _ _ _ _, World.ownsRow_nil _ _ _ _, fun q h => (nomatch h), by simp, (Below.refl _ _).alloc (Nat.le_refl _) _⟩⟩
    · have hi : decide ((0 : Int) < (n0 : Int)) = true := by simp; omega
      go_wp2_with fail
      go_meet
      refine ⟨.map (some (w.heap.size + 1)), ⟨blk_alloc (blk_at hvb) _, Nat.le_of_eq hvb.symm, .inr ⟨_, rfl, ?_⟩, fun s e => ?_, fun h => absurd h (by omega), fun _ => ⟨_, rfl⟩, World.ownsRow_nil _ _ _ _, World.ownsRow_nil _ _ _ _, fun q h => (nomatch h), by simp, ((Below.refl _ _).alloc (Nat.le_refl _) _).alloc (by simp) _⟩⟩
      · have := StrMap.made (w.alloc (.cells #[.map (some (w.heap.size + 1)), .slice none 0 0, .slice none 0 0, .map none, .map none, .map none, .int .i64 by_] 66))
        simpa using this
      · simp at e
        omega
  case rest =>
    obtain ⟨sv, hS⟩ := hcut
    clear hvb
    go_wp2_with fail
    go_loopw [17, 18, 78] (fun u17 u18 i x => ∃ (k : Nat) (A : AL), k ≤ n0 ∧ i = .int .i64 k ∧ A.length ≤ k ∧ (k = 0 ∨ A ≠ []) ∧ St1 w x vb n0 by_ sv u17 u18 A) (fun _ _ i _ => n0 - (intOf i).toNat)
    case atStart => exact ⟨0, [], by omega, rfl, by simp, .inl rfl, hS⟩
    case round =>
      obtain ⟨k, A, hk, rfl, hAk, hAne, hS1⟩ := hrel
      clear hS
      by_cases hlt : k < n0
      · obtain ⟨sm, hsv⟩ := hS1.some_ (by omega)
        subst hsv
        obtain ⟨b, o, ha, hb, p0, p1⟩ := Hpre.out k hlt
        subst ha
        have q0 : wr.cell? ⟨b, o + k * 2, none⟩ = some (.string (N k)) := by rw [hS1.bel.cell (p := ⟨b, o + k * 2, none⟩) hb]; exact p0
        have q1 : wr.cell? ⟨b, o + k * 2 + 1, none⟩ = some (.int .i64 (Af k)) := by rw [hS1.bel.cell (p := ⟨b, o + k * 2 + 1, none⟩) hb]; exact p1
        as_aux_lemma =>
          obtain ⟨X, hX⟩ : ∃ X, X = ((wr.alloc (.cells #[.string (N k), .int .i64 (Af k)] 69)).alloc (.cells #[.int .u32 1, .int .u32 0, .string { data := #[] }, .string { data := #[112, 114, 101] }, .string { data := #[] }, .pointer none, .slice none 0 0, .int .i64 0, .int .i64 0] 49)).alloc (.cells #[.pointer (some ⟨wr.heap.size + 1, 0, none⟩), .int .i64 (Af k)] 71) := ⟨_, rfl⟩
          have hMX : Moved wr X (fun _ => False) := by
            rw [hX]
            exact ((Moved.alloc _ _ _).trans (Moved.alloc _ _ (fun _ => False)) fun _ h => .inl h).trans (Moved.alloc _ _ (fun _ => False)) fun _ h => .inl h
          have hvX := hMX.blk hS1.blk id
          have hpX : X.heap[wr.heap.size]? = some (.cells #[.string (N k), .int .i64 (Af k)] 69) := by rw [hX]; exact blk_alloc (blk_alloc (blk_new _ _) _) _
          have hbX : X.heap[wr.heap.size + 1 + 1]? = some (.cells #[.pointer (some ⟨wr.heap.size + 1, 0, none⟩), .int .i64 (Af k)] 71) := by rw [hX]; exact blk_at (by simp)
          have hmX : StrMap X sm A := by
            rcases hS1.set with ⟨e, _⟩ | ⟨s, e, h⟩
            · cases e
            · cases e; exact h.kept fun o ho => hMX.blk ho id
          have hmX' : StrMap X.drew sm A := hmX
          obtain ⟨Y, hYr, hYm, hYg, hYs⟩ := hmX'.store Yba.underlying61 Yba.underlying9 (N k) (.agg #[.pointer (some ⟨wr.heap.size + 1, 0, none⟩), .int .i64 (Af k)])
          clear hYs
          have hMY : Moved X Y (fun b => b = sm) := ⟨hYg.os, hYg.tape, hYg.output, hYg.size, fun b hb hne => hYg.block b hb (by simpa using hne)⟩
          have d1 : X.cell? ⟨vb, 0, none⟩ = some (.map (some sm)) := by rw [cell_of_row _ _ _ _ _ _ hvX]; rfl
          have d2 : X.cell? ⟨wr.heap.size, 0, none⟩ = some (.string (N k)) := by rw [cell_of_row _ _ _ _ _ _ hpX]; rfl
          have d3 : X.cell? ⟨wr.heap.size + 1 + 1, 0, none⟩ = some (.pointer (some ⟨wr.heap.size + 1, 0, none⟩)) := by rw [cell_of_row _ _ _ _ _ _ hbX]; rfl
          have d4 : X.cell? ⟨wr.heap.size + 1 + 1, 1, none⟩ = some (.int .i64 (Af k)) := by rw [cell_of_row _ _ _ _ _ _ hbX]; rfl
          have hpY := hMY.blk hpX (hmX.ne hpX)
          have hbY := hMY.blk hbX (hmX.ne hbX)
          have hvY := hMY.blk hvX (hmX.ne hvX)
          have e2 : Y.cell? ⟨wr.heap.size, 0, none⟩ = some (.string (N k)) := by rw [cell_of_row _ _ _ _ _ _ hpY]; rfl
          have e3 : Y.cell? ⟨wr.heap.size + 1 + 1, 0, none⟩ = some (.pointer (some ⟨wr.heap.size + 1, 0, none⟩)) := by rw [cell_of_row _ _ _ _ _ _ hbY]; rfl
          have e4 : Y.cell? ⟨wr.heap.size + 1 + 1, 1, none⟩ = some (.int .i64 (Af k)) := by rw [cell_of_row _ _ _ _ _ _ hbY]; rfl
          have h17X : X.ownsRow w.heap.size 9 1 u17 A.length (A.map keyV) := row_kept hS1.r17 fun g o _ ho => hMX.blk ho id
          have h17Y : Y.ownsRow w.heap.size 9 1 u17 A.length (A.map keyV) := row_kept h17X fun g o hg ho => hMY.blk ho (row_ne_map h17X hg hmX)
          have h18X : X.ownsRow w.heap.size 71 2 u18 A.length (flat A) := row_kept hS1.r18 fun g o _ ho => hMX.blk ho id
          have h18Y : Y.ownsRow w.heap.size 71 2 u18 A.length (flat A) := row_kept h18X fun g o hg ho => hMY.blk ho (row_ne_map h18X hg hmX)
          have hidx := strs_of_row h17Y (by omega)
          go_wp2_with fail
          rw [← hX]
          clear hX
          go_region
          go_wp2_with (go_at_call 12; refine (idx_any _ _ _ (N k) _ hidx).mono ?_)
          rintro e x ⟨hx, r, rfl, hr⟩
          obtain rfl := hx.symm
          have hszY : wr.heap.size ≤ Y.heap.size := Nat.le_trans hMX.size hMY.size
          have hszw := hS1.bel.size
          have hMwY : Moved wr Y (fun b => b = sm) := (hMX.mono fun _ h => h.elim).trans hMY fun _ h => .inl h
          rcases hr with ⟨j, hj, rfl, hkj, hfj⟩ | ⟨rfl, hmiss⟩
          · obtain ⟨v0, hfi, hAj⟩ := idx_hit hj hkj hfj
            have hlook := look_hit hfi
            obtain ⟨g18, cap18, hu18⟩ := Joins.ownsRow_form h18Y (by omega)
            subst hu18
            obtain ⟨cur, hc18, _, hcap, hmx, hcs, htk⟩ := own_blk h18Y
            have hj2 : j * 2 + 1 < cur.size := by omega
            obtain ⟨x0, hx0⟩ := cell_ex hc18 (show j * 2 < cur.size by omega)
            obtain ⟨x1, hx1⟩ := cell_ex hc18 hj2
            have f0 := frozen_of_row Y g18 (j * 2) _ _ hc18
            have f1 := frozen_of_row Y g18 (j * 2 + 1) _ _ hc18
            have i0 : (j : Int) < (A.length : Int) := by omega
            go_wp2_with fail
            have hend := st1_old hS1 hMwY hvY hYm h17Y h18Y hfi hj
            have hlen := (keys_old (v := svOf (wr.heap.size + 1) (Af k)) hlook).1
            exact ⟨⟨k + 1, _, by omega, by go_num, by omega, .inr (put_ne _ _ _), hend⟩, by simp [intOf]; omega⟩
          · have hfi := idx_miss hmiss
            have hlook := look_miss hfi
            go_wp2_with (at_builtin; refine wpList_app1_at _ rfl _ _ 39 rfl w.heap.size 9 _ 16 Yba.underlying39 Yba.info9 rfl u17 A.length (A.map keyV) rfl ?ho1 Y.heap.size 1 (.string (N k)) rfl ?hc1 rfl ?ha1 ?ha2 ?ha3 ?hK1)
            case ho1 => exact row_kept h17Y fun g o _ ho => blk_alloc ho _
            case hc1 => rw [cell_of_row _ _ _ _ _ _ (blk_new Y _)]; rfl
            case ha1 => unfold maxLen; omega
            case ha2 => omega
            case ha3 => simp only [World.size_alloc]; omega
            case hK1 =>
              intro g17 cap17 Y1 hown17 hgrow17 hloc17
              have hM1 : Moved Y Y1 (fun b => u17.ownBlock = some b) := (Moved.alloc Y _ _).trans (Moved.of_grown hgrow17) fun i h => .inl h
              have hbY1 := hM1.blk hbY (fun e => row_ne h17Y e hbY (by decide) rfl)
              have e3' : Y1.cell? ⟨wr.heap.size + 1 + 1, 0, none⟩ = some (.pointer (some ⟨wr.heap.size + 1, 0, none⟩)) := by rw [cell_of_row _ _ _ _ _ _ hbY1]; rfl
              have e4' : Y1.cell? ⟨wr.heap.size + 1 + 1, 1, none⟩ = some (.int .i64 (Af k)) := by rw [cell_of_row _ _ _ _ _ _ hbY1]; rfl
              have h18Y1 : Y1.ownsRow w.heap.size 71 2 u18 A.length (flat A) := row_kept h18Y fun g o hg ho => hM1.blk ho (fun e => by
                rcases Joins.ownsRow_forms h18Y with ⟨h, _⟩ | ⟨g', c', h⟩
                · rw [h] at hg; cases hg
                · rw [h] at hg h18Y
                  cases hg
                  obtain ⟨cur, hc, _⟩ := own_blk h18Y
                  exact row_ne h17Y e hc (by decide) rfl)
              have hszY1 := hM1.size
              go_wp2_with (at_builtin; refine wpList_sv _ rfl _ _ rfl w.heap.size u18 A.length (flat A) rfl ?ho2 Y1.heap.size 1 (wr.heap.size + 1) (Af k) rfl ?hc2 ?hb2 ?hb3 ?hK2)
              case ho2 => exact row_kept h18Y1 fun g o _ ho => blk_alloc ho _
              case hc2 => exact blk_new _ _
              case hb2 => omega
              case hb3 => simp only [World.size_alloc]; omega
              case hK2 =>
                intro g18 cap18 Y2 hown18 hgrow18
                go_wp2_with fail
                have hend := st1_new hS1 hMwY hvY hYm h17Y h18Y1 hfi (by omega) hM1 hown17 hgrow18 hown18
                have hlen := put_len A (N k) (svOf (wr.heap.size + 1) (Af k))
                exact ⟨⟨k + 1, _, by omega, by go_num, by omega, .inr (put_ne _ _ _), hend⟩, by simp [intOf]; omega⟩
      · have hkn : n0 = k := by omega
        subst hkn
        have hcl := strs_of_row hS1.r17 (by have := hS1.len; omega)
        go_wp2_with (go_at_call 13; refine (clone_strs _ _ _ _ hcl (fun k _ => rfl)).mono ?_)
        intro e x2 ⟨nv, he, hown, hb2, _⟩
        subst he
        rw [vals_keys] at hown
        have hv2 := blk_below hS1.blk hb2 (blk_lt hS1.blk)
        have g1 : x2.cell? ⟨vb, 1, none⟩ = some (.slice none 0 0) := by rw [cell_of_row _ _ _ _ _ _ hv2]; rfl
        have gf : x2.frozen? ⟨vb, 1, none⟩ = false := frozen_of_row x2 vb 1 _ 66 hv2
        have hS2 := fun fnv => St2.start (fnv := fnv) hS1 hb2 hown hAne
        obtain ⟨np, nc, hnve⟩ := row_form hown
        subst hnve
        generalize hB2 : wr.heap.size = B2 at *
        clear hB2
        go_wp2_with fail
        generalize x2.setCell ⟨vb, 1, none⟩ (.slice np A.length nc) = X2 at *
        go_loopw [23] (fun i x => ∃ (k : Nat) (lv : Value), k ≤ nl ∧ i = .int .i64 k ∧ St2 w x vb n0 B2 k by_ sv (.slice np A.length nc) lv u17 u18 (.func (.func 14) #[] #[]) A) (fun i _ => nl - (intOf i).toNat)
        case atStart => exact ⟨0, _, by omega, rfl, hS2 _⟩
        case round =>
          clear hS2 hS1
          obtain ⟨k, lv, hk, rfl, hS3⟩ := hrel
          by_cases hlt : k < nl
          · obtain ⟨lp, lc, hlve⟩ := row_form hS3.look
            subst hlve
            have l2 : wr.cell? ⟨vb, 2, none⟩ = some (.slice lp k lc) := by rw [cell_of_row _ _ _ _ _ _ hS3.blk]; rfl
            have hB2s := hS3.B2le.2
            go_wp2_with (at_builtin; refine wpList_app1 _ rfl _ _ 62 rfl B2 76 _ 8 Yba.underlying62 Yba.info76 rfl (.slice lp k lc) k (List.replicate k (.func (.func 14) #[] #[])) rfl ?hl1 wr.heap.size 1 (.func (.func 14) #[] #[]) rfl ?hl2 rfl ?hl3 ?hl4 ?hl5 ?hl6)
            case hl1 => exact row_kept hS3.look fun g o _ ho => blk_alloc ho _
            case hl2 => rw [cell_of_row _ _ _ _ _ _ (blk_new wr _)]; rfl
            case hl3 => unfold maxLen; omega
            case hl4 => omega
            case hl5 => simp only [World.size_alloc]; omega
            case hl6 =>
              intro g cap x1 hown1 hgrow1
              have hv3 : x1.heap[vb]? = _ := blk_grown (blk_alloc hS3.blk _) hgrow1 (fun e => row_ne hS3.look e.symm hS3.blk (by decide) rfl)
              have l2' : x1.cell? ⟨vb, 2, none⟩ = some (.slice lp k lc) := by rw [cell_of_row _ _ _ _ _ _ hv3]; rfl
              have lf : x1.frozen? ⟨vb, 2, none⟩ = false := frozen_of_row x1 vb 2 _ 66 hv3
              go_wp2_with fail
              exact ⟨⟨k + 1, _, by omega, by go_num, St2.step hS3 hgrow1 hown1⟩, by simp [intOf]; omega⟩
          · have hkl : nl = k := by omega
            subst hkl
            obtain ⟨lp, lc, hlve⟩ := row_form hS3.look
            subst hlve
            have hba := hS3.base
            have hB3' := hS3.B2le
            obtain ⟨B3, hB3⟩ : ∃ B3, B3 = wr.heap.size := ⟨_, rfl⟩
            rw [← hB3] at hba hB3'
            go_upto_if 134 with fail
            go_cut [] from 133 to 138 (fun x => ∃ fv, St3 w x vb n0 n2 B2 B3 by_ sv (.slice np A.length nc) (.slice lp nl lc) fv u17 u18 (.slice none 0 0) (.slice none 0 0) A [] ∧ (a2 = none → fv = .map none) ∧ (a2 ≠ none → ∃ s, fv = .map (some s)))
            case first =>
              cases a2 with
              | none =>
                go_wp2_with fail
                go_meet
                exact ⟨.map none, ⟨hS3.blk, hba, hS3.bel, Nat.le_of_eq hB3, .inl ⟨rfl, rfl⟩, fun s e => Value.noConfusion e (fun e => nomatch e), World.ownsRow_nil _ _ _ _, World.ownsRow_nil _ _ _ _, fun _ h => (nomatch h), List.nodup_nil, by simp⟩, fun _ => rfl, fun h => absurd rfl h⟩
              | some ad =>
                have hal := blk_alloc hS3.blk (.map #[] 0)
                have hb5 : (wr.alloc (.map #[] 0)).cell? ⟨vb, 5, none⟩ = some (.map none) := by rw [cell_of_row _ _ _ _ _ _ hal]; rfl
                have hbf : (wr.alloc (.map #[] 0)).frozen? ⟨vb, 5, none⟩ = false := frozen_of_row _ vb 5 _ 66 hal
                go_wp2_with fail
                go_meet
                exact ⟨_, St3.made hS3 hB3 hba, fun h => (nomatch h), fun _ => ⟨_, rfl⟩⟩
            case rest =>
              obtain ⟨fv, hS4, hfn, hfs1⟩ := hcut
              clear hS3 hba hB3
              go_wp2_with fail
              go_loopw [24, 25, 141] (fun u24 u25 i x => ∃ (k : Nat) (F : AL), k ≤ n2 ∧ i = .int .i64 k ∧ F.length ≤ k ∧ St3 w x vb n0 n2 B2 B3 by_ sv (.slice np A.length nc) (.slice lp nl lc) fv u17 u18 u24 u25 A F) (fun _ _ i _ => n2 - (intOf i).toNat)
              case atStart => exact ⟨0, [], by omega, rfl, by simp, hS4⟩
              case round =>
                clear hS4
                obtain ⟨k, F, hk, rfl, hFk, hS5⟩ := hrel
                by_cases hlt : k < n2
                · as_aux_lemma =>
                    obtain ⟨_, _, heq, _, hfc⟩ := hfs
                    cases heq
                    obtain ⟨b, o, ha, hb, p0⟩ := hfc k hlt
                    clear hfc
                    subst ha
                    obtain ⟨fm, hfv⟩ := hfs1 (fun h => nomatch h)
                    subst hfv
                    clear hfn hfs1
                    have q0 : wr.cell? ⟨b, o + k, none⟩ = some (.string (fs k)) := by rw [hS5.bel.cell (p := ⟨b, o + k, none⟩) hb]; exact p0
                    clear p0
                    obtain ⟨X, hX⟩ : ∃ X, X = wr.alloc (.cells #[.int .u32 1, .int .u32 0, .string { data := #[] }, .string { data := #[102] }, .string { data := #[] }, .pointer none, .slice none 0 0, .int .i64 0, .int .i64 0] 49) := ⟨_, rfl⟩
                    have hMX : Moved wr X (fun _ => False) := by rw [hX]; exact Moved.alloc _ _ _
                    have hvX := hMX.blk hS5.blk id
                    have hmX : StrMap X fm F := by
                      rcases hS5.found with ⟨e, _⟩ | ⟨s, e, h⟩
                      · cases e
                      · cases e; exact h.kept fun o ho => hMX.blk ho id
                    obtain ⟨Y, hYr, hYm, hYg, hYs⟩ := hmX.store Yba.underlying63 Yba.underlying9 (fs k) (.pointer (some ⟨wr.heap.size, 0, none⟩))
                    clear hYs
                    have hMY : Moved X Y (fun b => b = fm) := ⟨hYg.os, hYg.tape, hYg.output, hYg.size, fun b hb hne => hYg.block b hb (by simpa using hne)⟩
                    have hMwY : Moved wr Y (fun b => b = fm) := (hMX.mono fun _ h => h.elim).trans hMY fun _ h => .inl h
                    have d5 : X.cell? ⟨vb, 5, none⟩ = some (.map (some fm)) := by rw [cell_of_row _ _ _ _ _ _ hvX]; rfl
                    have hvY := hMY.blk hvX (hmX.ne hvX)
                    have h24X : X.ownsRow B3 9 1 u24 F.length (F.map keyV) := row_kept hS5.r24 fun g o _ ho => hMX.blk ho id
                    have h24Y : Y.ownsRow B3 9 1 u24 F.length (F.map keyV) := row_kept h24X fun g o hg ho => hMY.blk ho (row_ne_map h24X hg hmX)
                    have h25X : X.ownsRow B3 43 1 u25 F.length (F.map (·.2)) := row_kept hS5.r25 fun g o _ ho => hMX.blk ho id
                    have h25Y : Y.ownsRow B3 43 1 u25 F.length (F.map (·.2)) := row_kept h25X fun g o hg ho => hMY.blk ho (row_ne_map h25X hg hmX)
                    have hidx := strs_of_row h24Y (by omega)
                    have hszY := hMwY.size
                    have hszw := hS5.bel.size
                    have hB3l := hS5.B3le
                    go_upto_region 33 with fail
                    rw [← hX]
                    clear hX
                    go_wp2_with (go_at_call 12; refine (idx_any _ _ _ (fs k) _ hidx).mono ?_)
                    rintro e x ⟨hx, r, rfl, hr⟩
                    obtain rfl := hx.symm
                    rcases hr with ⟨j, hj, rfl, hkj, hfj⟩ | ⟨rfl, hmiss⟩
                    · obtain ⟨v0, hfi, hAj⟩ := idx_hit hj hkj hfj
                      have hlook := look_hit hfi
                      obtain ⟨g25, cap25, hu25⟩ := Joins.ownsRow_form h25Y (by omega)
                      subst hu25
                      obtain ⟨cur, hc25, _, hcap, hmx, hcs, htk⟩ := own_blk h25Y
                      obtain ⟨x0, hx0⟩ := cell_ex hc25 (show j < cur.size by omega)
                      have f0 := frozen_of_row Y g25 j _ _ hc25
                      have i0 : (j : Int) < (F.length : Int) := by omega
                      go_wp2_with fail
                      have hend := st3_old hS5 hMwY hvY hYm h24Y h25Y hfi
                      have hlen := (keys_old (v := ptr wr.heap.size) hlook).1
                      exact ⟨⟨k + 1, _, by omega, by go_num, by omega, hend⟩, by simp [intOf]; omega⟩
                    · have hfi := idx_miss hmiss
                      have hlook := look_miss hfi
                      go_wp2_with (at_builtin; refine wpList_app1_at _ rfl _ _ 39 rfl B3 9 _ 16 Yba.underlying39 Yba.info9 rfl u24 F.length (F.map keyV) rfl ?hm1 Y.heap.size 1 (.string (fs k)) rfl ?hm2 rfl ?hm3 ?hm4 ?hm5 ?hm6)
                      case hm1 => exact row_kept h24Y fun g o _ ho => blk_alloc ho _
                      case hm2 => rw [cell_of_row _ _ _ _ _ _ (blk_new Y _)]; rfl
                      case hm3 => unfold maxLen; omega
                      case hm4 => omega
                      case hm5 => simp only [World.size_alloc]; omega
                      case hm6 =>
                        intro g24 cap24 Y1 hown24 hgrow24 hloc24
                        have hM1 : Moved Y Y1 (fun b => u24.ownBlock = some b) := (Moved.alloc Y _ _).trans (Moved.of_grown hgrow24) fun i h => .inl h
                        have h25Y1 : Y1.ownsRow B3 43 1 u25 F.length (F.map (·.2)) := row_kept h25Y fun g o hg ho => hM1.blk ho (fun e => rows_apart h25Y h24Y (by decide) hg e)
                        have hszY1 := hM1.size
                        go_wp2_with (at_builtin; refine wpList_app1_at _ rfl _ _ 47 rfl B3 43 _ 8 Yba.underlying47 Yba.info43 rfl u25 F.length (F.map (·.2)) rfl ?hn1 Y1.heap.size 1 (.pointer (some ⟨wr.heap.size, 0, none⟩)) rfl ?hn2 rfl ?hn3 ?hn4 ?hn5 ?hn6)
                        case hn1 => exact row_kept h25Y1 fun g o _ ho => blk_alloc ho _
                        case hn2 => rw [cell_of_row _ _ _ _ _ _ (blk_new Y1 _)]; rfl
                        case hn3 => unfold maxLen; omega
                        case hn4 => omega
                        case hn5 => simp only [World.size_alloc]; omega
                        case hn6 =>
                          intro g25 cap25 Y2 hown25 hgrow25 hloc25
                          go_wp2_with fail
                          have hend := st3_new hS5 hMwY hvY hYm h24Y h25Y1 hfi (by omega) hM1 hown24 hgrow25 hown25
                          have hlen := put_len F (fs k) (ptr wr.heap.size)
                          exact ⟨⟨k + 1, _, by omega, by go_num, by omega, hend⟩, by simp [intOf]; omega⟩
                · have hkn : n2 = k := by omega
                  subst hkn
                  obtain ⟨X1, hX1⟩ : ∃ X1, X1 = wr.alloc (.cells (nodeCells 1 sKey (.slice none 0 0)) 49) := ⟨_, rfl⟩
                  obtain ⟨sn, hsn⟩ : ∃ sn, sn = wr.heap.size := ⟨_, rfl⟩
                  obtain ⟨stb, hstb⟩ : ∃ stb, stb = X1.heap.size := ⟨_, rfl⟩
                  have hmk1 : StrMap (X1.alloc (.map #[] 0)) stb [] := by rw [hstb]; exact StrMap.made X1
                  obtain ⟨X2, hX2r, hX2m, hX2g, hX2s⟩ := hmk1.store Yba.underlying63 Yba.underlying9 sKey (ptr sn)
                  have hvlt := blk_lt hS5.blk
                  have hvX1 : X1.heap[vb]? = some (.cells (vsCells sv (.slice np A.length nc) (.slice lp nl lc) (.map none) (.map none) fv by_) 66) := by rw [hX1]; exact blk_alloc hS5.blk _
                  have hvX2 := blk_grown (blk_alloc hvX1 _) hX2g (by intro e; cases e; rw [hX1] at hstb; simp at hstb; omega)
                  have s3 : X2.cell? ⟨vb, 3, none⟩ = some (.map none) := by rw [cell_of_row _ _ _ _ _ _ hvX2]; rfl
                  have s3f : X2.frozen? ⟨vb, 3, none⟩ = false := frozen_of_row X2 vb 3 _ 66 hvX2
                  obtain ⟨X3, hX3⟩ : ∃ X3, X3 = X2.setCell ⟨vb, 3, none⟩ (.map (some stb)) := ⟨_, rfl⟩
                  have hvX3 : X3.heap[vb]? = some (.cells (vsCells sv (.slice np A.length nc) (.slice lp nl lc) (.map (some stb)) (.map none) fv by_) 66) := by rw [hX3]; exact blk_same hvX2 3 _
                  obtain ⟨sgb, hsgb⟩ : ∃ sgb, sgb = X3.heap.size := ⟨_, rfl⟩
                  have hmk3 : StrMap (X3.alloc (.map #[] 0)) sgb [] := by rw [hsgb]; exact StrMap.made X3
                  obtain ⟨X5, hX5r, hX5m, hX5g, hX5s⟩ := hmk3.store Yba.underlying64 Yba.underlying9 gKey (.bool true)
                  have hvX5 := blk_grown (blk_alloc hvX3 _) hX5g (by intro e; cases e; have := blk_lt hvX3; omega)
                  have s4 : X5.cell? ⟨vb, 4, none⟩ = some (.map none) := by rw [cell_of_row _ _ _ _ _ _ hvX5]; rfl
                  have s4f : X5.frozen? ⟨vb, 4, none⟩ = false := frozen_of_row X5 vb 4 _ 66 hvX5
                  have hMid := Mid.start hS5 hsn hX1 hstb hX2m hX2g hX3 hsgb hX5m hX5g
                  unfold sKey ptr at hX2r
                  unfold gKey at hX5r
                  have HX1 : Hid (X1 = wr.alloc (.cells (nodeCells 1 sKey (.slice none 0 0)) 49)) := hX1
                  have Hsn : Hid (sn = wr.heap.size) := hsn
                  have Hstb : Hid (stb = X1.heap.size) := hstb
                  have HX3 : Hid (X3 = X2.setCell ⟨vb, 3, none⟩ (.map (some stb))) := hX3
                  have Hsgb : Hid (sgb = X3.heap.size) := hsgb
                  rw [hstb] at hX2r
                  rw [hsgb] at hX5r
                  clear hX1 hsn hstb hX3 hsgb hX2s hX5s
                  go_upto_region 41 with fail
                  rw [show wr.alloc (.cells #[.int .u32 1, .int .u32 0, .string { data := #[] }, .string { data := #[115] }, .string { data := #[] }, .pointer none, .slice none 0 0, .int .i64 0, .int .i64 0] 49) = X1 from HX1.out.symm, ← Hsn.out]
                  go_upto_region 42 with fail
                  rw [← Hstb.out, ← HX3.out]
                  clear hX2r
                  go_upto_region 43 with fail
                  rw [← Hsgb.out]
                  clear hX5r HX1 Hsn Hstb HX3 Hsgb hmk1 hmk3 hvX1 hvX2 hvX3 hvX5 s3 s3f s4 s4f hX2m hX2g hX5m hX5g hS5
                  generalize hB4 : X5.heap.size = B4 at *
                  clear hB4
                  generalize X5.setCell ⟨vb, 4, none⟩ (.map (some sgb)) = X6 at *
                  go_upto_region 44 with fail
                  obtain ⟨rb, hrb⟩ : ∃ rb, rb = X6.heap.size := ⟨_, rfl⟩
                  have hM4 := hMid.B4le
                  have hCT0 : CT (X6.alloc (.cells #[.int .u32 2, .int .u32 0, .string { data := #[] }, .string { data := #[] }, .string { data := #[] }, .pointer none, .slice none 0 0, .int .i64 0, .int .i64 0] 49)) rb B4 (2 * 0) none 0 (fun _ => 0) (textOf ks vs n3 n4) :=
                    ⟨blk_at hrb, by omega, World.ownsRow_nil _ _ _ _, fun i hi => absurd hi (by omega)⟩
                  have hMid7 := hMid.keep ((Below.refl _ _).alloc hMid.bel.size (.cells #[.int .u32 2, .int .u32 0, .string { data := #[] }, .string { data := #[] }, .string { data := #[] }, .pointer none, .slice none 0 0, .int .i64 0, .int .i64 0] 49)) fun b o h ho => blk_alloc ho _
                  rw [← hrb]
                  clear hrb hMid hM4
                  generalize X6.alloc (.cells #[.int .u32 2, .int .u32 0, .string { data := #[] }, .string { data := #[] }, .string { data := #[] }, .pointer none, .slice none 0 0, .int .i64 0, .int .i64 0] 49) = X7 at *
                  go_wp2_with fail
                  go_loopw [188] (fun i x => ∃ (k : Nat) (cp : Option Addr) (cc : Nat) (C : Nat → Nat), k ≤ n3 ∧ i = .int .i64 k ∧ Mid w x vb n0 n2 B2 B3 B4 sn stb sgb by_ sv (.slice np A.length nc) (.slice lp nl lc) fv u17 u18 u24 u25 A F ∧ CT x rb B4 (2 * k) cp cc C (textOf ks vs n3 n4)) (fun i _ => n3 - (intOf i).toNat)
                  case atStart => exact ⟨0, none, 0, _, by omega, rfl, hMid7, hCT0⟩
                  case round =>
                    clear hMid7 hCT0
                    obtain ⟨k, cp, cc, C, hk, rfl, hMid, hC⟩ := hrel
                    by_cases hlt : k < n3
                    · obtain ⟨_, _, heq, _, hkc⟩ := hks
                      cases heq
                      obtain ⟨b, o, ha, hb, p0⟩ := hkc k hlt
                      clear hkc
                      subst ha
                      have q0 : wr.cell? ⟨b, o + k, none⟩ = some (.string (ks k)) := by rw [hMid.bel.cell (p := ⟨b, o + k, none⟩) hb]; exact p0
                      clear p0
                      have r6 : wr.cell? ⟨rb, 6, none⟩ = some (.slice cp (2 * k) cc) := by rw [cell_of_row _ _ _ _ _ _ hC.blk]; rfl
                      obtain ⟨m, hm⟩ : ∃ m, m = 2 * k := ⟨_, rfl⟩
                      have hT1 : textOf ks vs n3 n4 m = ks k := by rw [hm]; exact textOf_key hlt
                      have hT2 : textOf ks vs n3 n4 (m + 1) = valOf n4 vs k := by rw [hm]; exact textOf_val
                      have hm5 : m ≤ 50000 := by omega
                      rw [← hm] at hC r6
                      have hB4l := hMid.B4le.2.2
                      obtain ⟨xs, hxs⟩ : ∃ xs, xs = vals m fun i => ptr (C i) := ⟨_, rfl⟩
                      have hrow := hC.row
                      rw [← hxs] at hrow
                      have hlv : ∀ q, (Value.slice cp m cc).ownBlock = some q → q < wr.heap.size ∧ q ≠ rb := fun q hq => ⟨(hrow.lt q hq).2, fun e => row_ne hrow hq hC.blk (by decide) e.symm⟩
                      go_upto_region 47 with fail
                      refine wp_region_put (by kernel_rfl) (by kernel_rfl) (by kernel_rfl) (Good47 B4 wr.heap.size rb m k cp cc xs (ks k) (valOf n4 vs k) (.slice a4 n4 c4)) (J47 B4 wr.heap.size rb m cp cc xs (ks k) (valOf n4 vs k) wr) (Step47 wr.heap.size rb) ?stable ?start ?step ?fin
                      case stable => exact fun i j v w w' hij _ hg hS => Good47.stable i j v w w' hij hg hS
                      case start => exact ⟨⟨rfl, rfl, rfl⟩, Nat.le_refl _, fun _ _ _ _ => rfl, fun _ => hrow, fun _ => hC.blk, (fun h => nomatch h), hlv, blk_lt hC.blk⟩
                      case step =>
                        have csrc : ∀ x {d}, J47 B4 wr.heap.size rb m cp cc xs (ks k) (valOf n4 vs k) wr d x → StrsAt x (.slice a4 n4 c4) n4 vs := fun x d hx => by
                          have h1 := hMid.bel
                          have h2 := hMid.base.B2le
                          have h3 := hMid.B4le
                          have h4 := hC.rbge
                          refine hvs.keep (Nat.le_refl _) ⟨hx.os.1.trans h1.os, hx.os.2.1.trans h1.tape, hx.os.2.2.trans h1.output, Nat.le_trans h1.size hx.size, fun q hq => ?_⟩
                          rw [hx.old q (Nat.lt_of_lt_of_le hq h1.size) (fun e => by have := (hrow.lt q e.symm).1; omega) (by omega)]
                          exact h1.block q hq
                        have hBN := hB4l
                        intro i oo ho a w hold hlate hdep d hdi hdd hJ
                        match i, ho with
                        | 0, ho =>
                          obtain rfl := Option.some.inj ho
                          exact l47_0 rfl hJ (hold 31 (by kernel_rfl))
                        | 1, ho =>
                          obtain rfl := Option.some.inj ho
                          exact l47_1 rfl hJ (hold 31 (by kernel_rfl))
                        | 2, ho =>
                          obtain rfl := Option.some.inj ho
                          exact l47_2 rfl hJ (hdep 1 194 (by kernel_rfl) rfl)
                        | 3, ho =>
                          obtain rfl := Option.some.inj ho
                          exact l47_3 rfl hJ (hdep 2 195 (by kernel_rfl) rfl)
                        | 4, ho =>
                          obtain rfl := Option.some.inj ho
                          exact l47_4 rfl hJ (hdep 3 196 (by kernel_rfl) rfl) hdi
                        | 5, ho =>
                          obtain rfl := Option.some.inj ho
                          exact l47_5 rfl hJ (hold 33 (by kernel_rfl))
                        | 6, ho =>
                          obtain rfl := Option.some.inj ho
                          exact l47_6 rfl hJ (hdep 5 198 (by kernel_rfl) rfl)
                        | 7, ho =>
                          obtain rfl := Option.some.inj ho
                          exact l47_7 rfl hJ (hdep 6 199 (by kernel_rfl) rfl)
                        | 8, ho =>
                          obtain rfl := Option.some.inj ho
                          exact l47_8 rfl hJ (hold 4 (by kernel_rfl)) ⟨_, _, _, rfl⟩
                        | 9, ho =>
                          obtain rfl := Option.some.inj ho
                          exact l47_9 rfl hJ (hold 32 (by kernel_rfl))
                        | 10, ho =>
                          obtain rfl := Option.some.inj ho
                          exact l47_10 rfl hJ (hdep 8 201 (by kernel_rfl) rfl) (hdep 9 202 (by kernel_rfl) rfl) (by omega) vs rfl (csrc w hJ)
                        | 11, ho =>
                          obtain rfl := Option.some.inj ho
                          exact l47_11 rfl hJ (hdep 10 203 (by kernel_rfl) rfl)
                        | 12, ho =>
                          obtain rfl := Option.some.inj ho
                          exact l47_12 rfl hJ (hdep 11 204 (by kernel_rfl) rfl)
                        | 13, ho =>
                          obtain rfl := Option.some.inj ho
                          exact l47_13 rfl hJ (hdep 7 200 (by kernel_rfl) rfl) (hdep 12 205 (by kernel_rfl) rfl)
                        | 14, ho =>
                          obtain rfl := Option.some.inj ho
                          exact l47_14 rfl hJ (hdep 4 197 (by kernel_rfl) rfl) (hdep 13 206 (by kernel_rfl) rfl) hdi (by omega) hBN
                        | 15, ho =>
                          obtain rfl := Option.some.inj ho
                          exact l47_15 rfl hJ (hdep 0 193 (by kernel_rfl) rfl)
                        | 16, ho =>
                          obtain rfl := Option.some.inj ho
                          exact l47_16 rfl hJ (hdep 15 208 (by kernel_rfl) rfl)
                        | 17, ho =>
                          obtain rfl := Option.some.inj ho
                          exact l47_17 rfl hJ (hdep 16 209 (by kernel_rfl) rfl) (hdep 14 207 (by kernel_rfl) rfl) hdi (hdd 14 (by kernel_rfl)) (hdd 4 (by kernel_rfl))
                        | q + 18, ho => simp at ho
                      case fin =>
                        intro f w3 d hgood hall hJ
                        obtain ⟨_, _, g, cap, p, q, f1, f2, f3, f4, f5, f6⟩ := hJ.fin (hall 17 (by decide))
                        have hMv : Moved wr w3 (fun b => (Value.slice cp m cc).ownBlock = some b ∨ b = rb) := ⟨hJ.os.1, hJ.os.2.1, hJ.os.2.2, hJ.size, fun b hb hn => hJ.old b hb (fun e => hn (.inl e.symm)) (fun e => hn (.inr e))⟩
                        rw [hxs] at f2
                        obtain ⟨hM', C', hC'⟩ := ct_fin (news := [p, q]) hMid hC hMv (fun i hi => by
                          match i, hi with
                          | 0, _ => exact ⟨by rw [Nat.add_zero, hT1]; exact f4, f3⟩
                          | 1, _ => exact ⟨by rw [hT2]; exact f6, f5⟩) f1 f2
                        have hC2 : CT w3 rb B4 (2 * (k + 1)) (some ⟨g, 0, none⟩) cap C' (textOf ks vs n3 n4) := by
                          rw [show 2 * (k + 1) = m + [p, q].length by simp; omega]
                          exact hC'
                        clear hgood hall hJ f1 f2 f4 f6 hMv hC' hm hxs hT1 hT2
                        simp only [dsts, List.filterMap_cons, List.filterMap_nil, List.foldl_cons, List.foldl_nil]
                        go_wp2_with fail
                        exact ⟨⟨k + 1, some ⟨g, 0, none⟩, cap, C', by omega, by go_num, hM', hC2⟩, by simp [intOf]; omega⟩
                    · have hkn : n3 = k := by omega
                      subst hkn
                      go_upto_if 211 with fail
                      go_cut [] from 211 to 222 (fun x => ∃ (m : Nat) (cp : Option Addr) (cc : Nat) (C : Nat → Nat), m = 2 * n3 + (if odd then 1 else 0) ∧ Mid w x vb n0 n2 B2 B3 B4 sn stb sgb by_ sv (.slice np A.length nc) (.slice lp nl lc) fv u17 u18 u24 u25 A F ∧ CT x rb B4 m cp cc C (textOf ks vs n3 n4))
                      case first =>
                        cases odd with
                        | false =>
                          go_wp2_with fail
                          go_meet
                          exact ⟨2 * n3, cp, cc, C, rfl, hMid, hC⟩
                        | true =>
                          have r6 : wr.cell? ⟨rb, 6, none⟩ = some (.slice cp (2 * n3) cc) := by rw [cell_of_row _ _ _ _ _ _ hC.blk]; rfl
                          have hB4l := hMid.B4le.2.2
                          obtain ⟨m, hm⟩ : ∃ m, m = 2 * n3 := ⟨_, rfl⟩
                          have hT : textOf ks vs n3 n4 m = oddText := by rw [hm]; exact textOf_odd
                          have hm5 : m ≤ 50000 := by omega
                          rw [← hm] at hC r6
                          have Hm : Hid (m = 2 * n3) := hm
                          clear hm
                          go_wp2_with (at_builtin; refine wpList_app1 _ rfl _ _ 47 rfl B4 43 _ 8 Yba.underlying47 Yba.info43 rfl (.slice cp m cc) m (vals m fun i => ptr (C i)) rfl ?hq1 (wr.heap.size + 1) 1 (.pointer (some ⟨wr.heap.size, 0, none⟩)) rfl ?hq2 rfl ?hq3 ?hq4 ?hq5 ?hq6)
                          case hq1 => exact row_kept hC.row fun g o _ ho => blk_alloc (blk_alloc ho _) _
                          case hq3 => unfold maxLen; omega
                          case hq4 => omega
                          case hq5 => omega
                          case hq6 =>
                            intro g cap x1 hown1 hgrow1
                            have hM1 : Moved wr x1 (fun b => (Value.slice cp m cc).ownBlock = some b) := ((Moved.alloc wr _ _).trans (Moved.alloc _ _ (fun b => (Value.slice cp m cc).ownBlock = some b)) fun _ h => .inl h).trans (Moved.of_grown hgrow1) fun _ h => .inl h
                            have hrx := hM1.blk hC.blk fun e => row_ne hC.row e hC.blk (by decide) rfl
                            have r6' : x1.cell? ⟨rb, 6, none⟩ = some (.slice cp m cc) := by rw [cell_of_row _ _ _ _ _ _ hrx]; rfl
                            have r6f : x1.frozen? ⟨rb, 6, none⟩ = false := frozen_of_row x1 rb 6 _ 49 hrx
                            have hnd : x1.heap[wr.heap.size]? = some (.cells (nodeCells 1 oddText (.slice none 0 0)) 49) := blk_grown (blk_alloc (blk_new wr _) _) hgrow1 (fun e => by have := (hC.row.lt _ e.symm).2; omega)
                            go_wp2_with fail
                            go_meet
                            have hrl := blk_lt hC.blk
                            have hg1 : g ≠ rb := by
                              obtain ⟨cur, hc, _⟩ := own_blk hown1
                              exact ne_of_type hc hrx (by decide)
                            obtain ⟨hM', C', hC'⟩ := ct_fin (news := [wr.heap.size]) hMid hC ((hM1.mono fun _ h => .inl h).trans (Moved.setCell x1 ⟨rb, 6, none⟩ (.slice (some ⟨g, 0, none⟩) (m + 1) cap)) fun i h => .inl (.inr h)) (fun i hi => by
                              match i, hi with
                              | 0, _ => exact ⟨by rw [← hT] at hnd; exact blk_set hnd (by show wr.heap.size ≠ rb; omega) _, Nat.le_refl _⟩) (blk_same hrx 6 _) (own_keep hown1 fun o ho => blk_set ho hg1 _)
                            exact ⟨m + 1, _, _, C', by rw [Hm.out]; rfl, hM', hC'⟩
                      case rest =>
                        clear hMid hC
                        obtain ⟨m, cp, cc, C, hm, hMid, hC⟩ := hcut
                        have hm2 : m / 2 = n3 := by rw [hm]; split <;> omega
                        have hmle : m ≤ 2 * n3 + 1 := by rw [hm]; split <;> omega
                        have hmge : 2 * n3 ≤ m := by rw [hm]; omega
                        have Hm : Hid (m = 2 * n3 + (if odd then 1 else 0)) := hm
                        clear hm
                        have r6 : wc.cell? ⟨rb, 6, none⟩ = some (.slice cp m cc) := by rw [cell_of_row _ _ _ _ _ _ hC.blk]; rfl
                        go_wp2_with (go_at_call 16; refine (clone_nodes _ _ _ _ (hC.rowAt (by omega)) (fun k _ => rfl)).mono ?_)
                        intro e x2 ⟨u34, he, h34, hb34, _⟩
                        subst he
                        have hMid2 : Mid w x2 vb n0 n2 B2 B3 B4 sn stb sgb by_ sv (.slice np A.length nc) (.slice lp nl lc) fv u17 u18 u24 u25 A F := hMid.keep (hb34.mono hMid.bel.size) fun b o _ ho => blk_below ho hb34 (blk_lt ho)
                        have hC2 : RootAt x2 rb m cp cc C (textOf ks vs n3 n4) := hC.root.keep fun b cs t _ _ ho => blk_below ho hb34 (blk_lt ho)
                        have hAl := hMid.base.len
                        obtain ⟨p34, c34, hu34⟩ := row_form h34
                        subst hu34
                        go_wp2_with (go_at_call 17; refine (setAll_any vb B2 nl rb m by_ sv _ _ _ fv lp cp lc cc C (textOf ks vs n3 n4) A F x2 hMid2.vars hC2 (by omega) hMid.base.svs (by omega) (by omega) (by have := hMid2.base.B2le; have := hMid2.B4le; omega)).mono ?_)
                        intro e x3 ⟨he, sv', nv', hV, hMv, hKp, h0⟩
                        subst he
                        have hF := Fin6.start (nl := nl) hMid hC hb34 h34 hV hMv hKp
                        rw [hm2] at hF h0
                        have hnilA := hMid.base.nil
                        have hF0 : fv = .map none → F = [] := fun e => by
                          rcases hMid.found with ⟨_, h⟩ | ⟨b, h, _⟩
                          · exact h
                          · rw [h] at e; cases e
                        have hND := hMid.nd
                        have hPt := hMid.ptrs
                        have hFl := hMid.flen
                        have hSv := hMid.base.svs
                        have hS0 : sv = .map none → A = [] := fun e => by
                          rcases hMid.base.set with ⟨_, h⟩ | ⟨b, h, _⟩
                          · exact h
                          · rw [h] at e; cases e
                        clear hV hMv hKp hMid2 hC2 h34 hb34 hMid hC r6
                        generalize wc.heap.size = B5 at *
                        have k0 : x3.cell? ⟨rb, 0, none⟩ = some (.int .u32 2) := by rw [cell_of_row _ _ _ _ _ _ hF.root.blk]; rfl
                        have k6 : x3.cell? ⟨rb, 6, none⟩ = some (.slice cp m cc) := by rw [cell_of_row _ _ _ _ _ _ hF.root.blk]; rfl
                        go_wp2_with fail
                        clear k0 k6
                        go_loopw [35] (fun i x => ∃ k : Nat, k ≤ m ∧ i = .int .i64 k ∧ Below x3.heap.size x3 x) (fun i _ => m - (intOf i).toNat)
                        case atStart => exact ⟨0, by omega, rfl, Below.refl _ _⟩
                        case round =>
                          obtain ⟨k, hk, rfl, hbx⟩ := hrel
                          have hFk := hF.keep hbx
                          by_cases hlt : k < m
                          · as_aux_lemma =>
                              have q6 : wr.cell? ⟨rb, 6, none⟩ = some (.slice cp m cc) := by rw [cell_of_row _ _ _ _ _ _ hFk.root.blk]; rfl
                              obtain ⟨g, cur, hcp, hg, hgi⟩ := hFk.root.row k hlt
                              obtain ⟨g2, hp34, hc34⟩ := row_cell hFk.r34 hlt (vals_get _ _ _ hlt)
                              subst hcp
                              subst hp34
                              have e1 : wr.cell? ⟨g, k, none⟩ = some (.pointer (some ⟨C k, 0, none⟩)) := by rw [cell_of_row _ _ _ _ _ _ hg]; exact hgi
                              have e2 : wr.cell? ⟨g2, k, none⟩ = some (.pointer (some ⟨C k, 0, none⟩)) := hc34
                              have q43 := neq43
                              have i0 : (k : Int) < (m : Int) := by omega
                              clear hFk hg hgi hc34
                              go_wp2_with fail
                              go_quiet (fail)
                              go_wp2_with fail
                              exact ⟨⟨k + 1, by omega, by go_num, below_drewN hbx _⟩, by simp [intOf]; omega⟩
                          · have hkm : m = k := by omega
                            subst hkm
                            clear hF hbx
                            have hF := hFk
                            clear hFk
                            go_wp2_with fail
                            obtain ⟨x4, hx4⟩ : ∃ x4, x4 = wr := ⟨_, rfl⟩
                            rw [← hx4] at hF
                            rw [← hx4]
                            clear hx4
                            go_loopw [36] (fun i x => ∃ k : Nat, k ≤ n3 ∧ i = .int .i64 k ∧ Below x4.heap.size x4 x) (fun i _ => n3 - (intOf i).toNat)
                            case atStart => exact ⟨0, by omega, rfl, Below.refl _ _⟩
                            case round =>
                              obtain ⟨k, hk, rfl, hbx⟩ := hrel
                              have hFk := hF.keep hbx
                              by_cases hlt : k < n3
                              · as_aux_lemma =>
                                  have q6 : wr.cell? ⟨rb, 6, none⟩ = some (.slice cp m cc) := by rw [cell_of_row _ _ _ _ _ _ hFk.root.blk]; rfl
                                  obtain ⟨g, cur, hcp, hg, hgi⟩ := hFk.root.row (2 * k) (by omega)
                                  obtain ⟨g', cur', hcp', hg', hgi'⟩ := hFk.root.row (2 * k + 1) (by omega)
                                  subst hcp
                                  cases hcp'
                                  rw [hg] at hg'
                                  cases hg'
                                  have e1 : wr.cell? ⟨g, 2 * k, none⟩ = some (.pointer (some ⟨C (2 * k), 0, none⟩)) := by rw [cell_of_row _ _ _ _ _ _ hg]; exact hgi
                                  have e2 : wr.cell? ⟨g, 2 * k + 1, none⟩ = some (.pointer (some ⟨C (2 * k + 1), 0, none⟩)) := by rw [cell_of_row _ _ _ _ _ _ hg]; exact hgi'
                                  have e3 : wr.cell? ⟨C (2 * k), 3, none⟩ = some (.string (ks k)) := by rw [cell_of_row _ _ _ _ _ _ (hFk.root.node (2 * k) (by omega))]; rw [textOf_key hlt]; rfl
                                  have e4 : wr.cell? ⟨C (2 * k + 1), 3, none⟩ = some (.string (valOf n4 vs k)) := by rw [cell_of_row _ _ _ _ _ _ (hFk.root.node (2 * k + 1) (by omega))]; rw [textOf_val]; rfl
                                  obtain ⟨_, _, heq, _, hkc⟩ := hks
                                  cases heq
                                  obtain ⟨b, o, ha, hb, p0⟩ := hkc k hlt
                                  clear hkc
                                  subst ha
                                  have q0 : wr.cell? ⟨b, o + k, none⟩ = some (.string (ks k)) := by rw [hFk.bel.cell (p := ⟨b, o + k, none⟩) hb]; exact p0
                                  have hV4 : StrsAt wr (.slice a4 n4 c4) n4 vs := hvs.keep (Nat.le_refl _) hFk.bel
                                  have hkk : k ≤ 100000 := by omega
                                  clear hFk hg hgi hgi' p0
                                  have b1 := bb_eq (rfl : ks k = ks k)
                                  have b2 := bb_eq (rfl : valOf n4 vs k = valOf n4 vs k)
                                  obtain ⟨J, hJ⟩ : ∃ J, J = 2 * k := ⟨_, rfl⟩
                                  have j0 : (2 : Int) * (k : Int) = (J : Int) := by omega
                                  have j1 : (J : Int) < (m : Int) := by omega
                                  have j2 : (J : Int) + 1 < (m : Int) := by omega
                                  have j3 : (J : Int) ≤ 10000 := by omega
                                  rw [← hJ] at e1 e2 e3 e4
                                  clear hJ
                                  go_wp2_with fail
                                  go_quiet ((go_at_call 15; exact Calls.quiet_of_same (val_any _ n4 vs k hkk _ hV4)))
                                  go_wp2_with fail
                                  exact ⟨⟨k + 1, by omega, by go_num, below_drewN hbx _⟩, by simp [intOf]; omega⟩
                              · have hkm : n3 = k := by omega
                                subst hkm
                                clear hF hbx
                                have hF := hFk
                                clear hFk
                                obtain ⟨x5, hx5⟩ : ∃ x5, x5 = wr := ⟨_, rfl⟩
                                rw [← hx5] at hF
                                go_upto_region 65 with fail
                                rw [← hx5]
                                clear hx5
                                go_cut [322] from 304 to 321 (fun c x => c = .bool false ∧ Below x5.heap.size x5 x)
                                case first =>
                                  cases odd with
                                  | false =>
                                    go_quiet (fail)
                                    go_wp2_with fail
                                    go_meet
                                    exact ⟨rfl, below_drewN (Below.refl _ _) _⟩
                                  | true =>
                                    have hmo : m = 2 * n3 + 1 := Hm.out
                                    have q6 : x5.cell? ⟨rb, 6, none⟩ = some (.slice cp m cc) := by rw [cell_of_row _ _ _ _ _ _ hF.root.blk]; rfl
                                    obtain ⟨g, cur, hcp, hg, hgi⟩ := hF.root.row (m - 1) (by omega)
                                    subst hcp
                                    have e1 : x5.cell? ⟨g, m - 1, none⟩ = some (.pointer (some ⟨C (m - 1), 0, none⟩)) := by rw [cell_of_row _ _ _ _ _ _ hg]; exact hgi
                                    have e3 : x5.cell? ⟨C (m - 1), 3, none⟩ = some (.string oddText) := by rw [cell_of_row _ _ _ _ _ _ (hF.root.node (m - 1) (by omega))]; rw [show m - 1 = 2 * n3 by omega, textOf_odd]; rfl
                                    obtain ⟨J, hJ⟩ : ∃ J, m = J + 1 := ⟨m - 1, by omega⟩
                                    have hJ' : m - 1 = J := by omega
                                    rw [hJ'] at e1 e3
                                    have j1 : (m : Int) - 1 = (J : Int) := by omega
                                    have j2 : (J : Int) < (m : Int) := by omega
                                    have j3 : (J : Int) ≤ 10000 := by omega
                                    have b1 := bb_eq (rfl : oddText = oddText)
                                    unfold oddText at e3 b1
                                    clear hJ hJ' hmo
                                    go_quiet (fail)
                                    go_wp2_with fail
                                    go_meet
                                    exact ⟨rfl, below_drewN (Below.refl _ _) _⟩
                                case rest =>
                                  obtain ⟨rfl, hbx⟩ := hcut
                                  have hFk := hF.keep hbx
                                  clear hF hbx
                                  have hF := hFk
                                  clear hFk
                                  have hcl := strs_of_row hF.r17 (by omega)
                                  go_wp2_with (go_at_call 13; refine (clone_strs _ _ _ _ hcl (fun k _ => rfl)).mono ?_)
                                  intro e x6 ⟨ex, he, hown6, hb6, _⟩
                                  subst he
                                  rw [vals_keys] at hown6
                                  obtain ⟨B7, hB7⟩ : ∃ B7, B7 = wc.heap.size := ⟨_, rfl⟩
                                  rw [← hB7] at hown6 hb6
                                  have hB7a : B7 ≤ wc.heap.size := by omega
                                  have hB7b : wc.heap.size ≤ B7 := by omega
                                  clear hB7
                                  obtain ⟨exp, exc, hexe⟩ := row_form hown6
                                  subst hexe
                                  go_wp2_with fail
                                  go_loopw [37, 327] (fun u37 i x => ∃ k : Nat, k ≤ n3 ∧ i = .int .i64 k ∧ x.ownsRow B7 9 1 u37 (foldA (textOf ks vs n3 n4) C nl A k).length ((foldA (textOf ks vs n3 n4) C nl A k).map keyV) ∧ Below B7 wc x) (fun _ i _ => n3 - (intOf i).toNat)
                                  case atStart => exact ⟨0, by omega, rfl, hown6, hb6⟩
                                  case round =>
                                    clear hown6 hb6
                                    obtain ⟨k, hk, rfl, hown7, hb7⟩ := hrel
                                    by_cases hlt : k < n3
                                    · as_aux_lemma =>
                                        obtain ⟨_, _, heq, _, hkc⟩ := hks
                                        cases heq
                                        obtain ⟨b, o, ha, hb, p0⟩ := hkc k hlt
                                        clear hkc
                                        subst ha
                                        have hbw : w.heap.size ≤ wc.heap.size := hF.bel.size
                                        have q0 : wr.cell? ⟨b, o + k, none⟩ = some (.string (ks k)) := by rw [hb7.cell (p := ⟨b, o + k, none⟩) (show b < B7 by omega), hF.bel.cell (p := ⟨b, o + k, none⟩) hb]; exact p0
                                        clear p0
                                        have hAl2 := foldA_len (textOf ks vs n3 n4) C nl A k
                                        have hput : foldA (textOf ks vs n3 n4) C nl A (k + 1) = put (foldA (textOf ks vs n3 n4) C nl A k) (ks k) (svOf (C (2 * k + 1)) nl) := by
                                          show put _ (textOf ks vs n3 n4 (2 * k)) _ = _
                                          rw [textOf_key hlt]
                                        have hidx := strs_of_row hown7 (by omega)
                                        obtain ⟨A7, hA7⟩ : ∃ A7, A7 = foldA (textOf ks vs n3 n4) C nl A k := ⟨_, rfl⟩
                                        rw [← hA7] at hput hidx hown7 hAl2
                                        clear hA7
                                        have hb7s := hb7.size
                                        go_wp2_with (go_at_call 12; refine (idx_any _ _ _ (ks k) _ hidx).mono ?_)
                                        rintro e x ⟨hx, r, rfl, hr⟩
                                        obtain rfl := hx.symm
                                        rcases hr with ⟨j, hj, rfl, hkj, hfj⟩ | ⟨rfl, hmiss⟩
                                        · obtain ⟨v0, hfi, hAj⟩ := idx_hit hj hkj hfj
                                          have hko := keys_old (v := svOf (C (2 * k + 1)) nl) (look_hit hfi)
                                          have hdj : decide ((j : Int) < 0) = false := by simp
                                          go_wp2_with fail
                                          exact ⟨⟨k + 1, by omega, by go_num, by rw [hput, hko.1, hko.2]; exact hown7, hb7⟩, by simp [intOf]; omega⟩
                                        · have hkn := keys_new (v := svOf (C (2 * k + 1)) nl) (look_miss (idx_miss hmiss))
                                          go_wp2_with (at_builtin; refine wpList_app1_at _ rfl _ _ 39 rfl B7 9 _ 16 Yba.underlying39 Yba.info9 rfl u37 A7.length (A7.map keyV) rfl ?hr1 wr.heap.size 1 (.string (ks k)) rfl ?hr2 rfl ?hr3 ?hr4 ?hr5 ?hr6)
                                          case hr1 => exact row_kept hown7 fun g o _ ho => blk_alloc ho _
                                          case hr2 => rw [cell_of_row _ _ _ _ _ _ (blk_new wr _)]; rfl
                                          case hr3 => unfold maxLen; omega
                                          case hr4 => omega
                                          case hr5 => simp only [World.size_alloc]; omega
                                          case hr6 =>
                                            intro g37 cap37 Y1 hown37 hgrow37 _
                                            have hM1 : Moved wr Y1 (fun b => u37.ownBlock = some b) := (Moved.alloc wr _ _).trans (Moved.of_grown hgrow37) fun i h => .inl h
                                            have hb8 : Below B7 wc Y1 := hb7.trans (hM1.below (by omega) fun b e => (hown7.lt b e).1)
                                            go_wp2_with fail
                                            refine ⟨⟨k + 1, by omega, by go_num, ?_, hb8⟩, by simp [intOf]; omega⟩
                                            rw [hput, hkn]
                                            simpa [keyV] using hown37
                                    · have hkn : n3 = k := by omega
                                      subst hkn
                                      obtain ⟨A', hA'⟩ : ∃ A', A' = foldA (textOf ks vs n3 n4) C nl A n3 := ⟨_, rfl⟩
                                      obtain ⟨F', hF'⟩ : ∃ F', F' = foldF (textOf ks vs n3 n4) F n3 := ⟨_, rfl⟩
                                      have hAl3 := foldA_len (textOf ks vs n3 n4) C nl A n3
                                      rw [← hA', ← hF'] at hF
                                      rw [← hA'] at hown7 hAl3
                                      have HA' : Hid (A' = foldA (textOf ks vs n3 n4) C nl A n3) := hA'
                                      have HF' : Hid (F' = foldF (textOf ks vs n3 n4) F n3) := hF'
                                      clear hA' hF'
                                      have hFk := hF.keep (hb7.mono hB7b)
                                      clear hF hb7 hB7a hB7b
                                      have hF := hFk
                                      clear hFk
                                      have v1 : wr.cell? ⟨vb, 1, none⟩ = some nv' := by rw [cell_of_row _ _ _ _ _ _ hF.blk]; rfl
                                      obtain ⟨np', nc', hnve⟩ := row_form hF.names
                                      subst hnve
                                      have hs1 := strs_of_row hF.names (by omega)
                                      have hs2 := strs_of_row hown7 (by omega)
                                      obtain ⟨ep, ec, hepe⟩ := row_form hown7
                                      subst hepe
                                      go_wp2_with (go_at_call 18; refine (equal_strs _ _ _ _ _ hs1 hs2).mono ?_)
                                      intro e x7 ⟨he, hb8⟩
                                      subst he
                                      have hFk := hF.keep hb8
                                      have hown8 : x7.ownsRow B7 9 1 (.slice ep A'.length ec) A'.length (A'.map keyV) := row_kept hown7 fun g o _ ho => blk_below ho hb8 (blk_lt ho)
                                      clear hF hb8 hown7 hs1 hs2 v1
                                      have hF := hFk
                                      clear hFk
                                      go_upto_if 349 with fail
                                      go_cut [] from 347 to 362 (fun x => x = x7)
                                      case first =>
                                        have v0 : x7.cell? ⟨vb, 0, none⟩ = some sv' := by rw [cell_of_row _ _ _ _ _ _ hF.blk]; rfl
                                        rcases Nat.eq_zero_or_pos A'.length with hz | hz
                                        · have hi : ((A'.length : Int) == 0) = true := by simp [hz]
                                          have hA0 : A' = [] := List.eq_nil_of_length_eq_zero hz
                                          have hn30 : n3 = 0 := by
                                            rcases Nat.eq_zero_or_pos n3 with h | h
                                            · exact h
                                            · obtain ⟨q, hq⟩ : ∃ q, n3 = q + 1 := ⟨n3 - 1, by omega⟩
                                              have := HA'.out
                                              rw [hA0, hq] at this
                                              exact absurd this.symm (put_ne _ _ _)
                                          have hAe : A = [] := by
                                            have := HA'.out
                                            rw [hA0, hn30] at this
                                            exact this.symm
                                          have hsv : sv' = .map none := by rw [h0 hn30]; exact hnilA hAe
                                          rw [hsv] at v0
                                          have q61 := neq61n
                                          clear hz hA0 hn30 hAe hsv
                                          go_wp2_with fail
                                          go_meet
                                          rfl
                                        · have hi : ((A'.length : Int) == 0) = false := by rw [beq_eq_false_iff_ne]; omega
                                          obtain ⟨sm', hsm, hsmm⟩ : ∃ s, sv' = .map (some s) ∧ StrMap x7 s A' := by
                                            rcases hF.set with ⟨_, h⟩ | ⟨b, h, hb⟩
                                            · rw [h] at hz; simp at hz
                                            · exact ⟨b, h, hb⟩
                                          rw [hsm] at v0
                                          have hlen := hsmm.len (P := Yba.prog) (ty := 3) Yba.underlying61
                                          clear hz
                                          go_wp2_with fail
                                          go_meet
                                          rfl
                                      case rest =>
                                        have hcut' := hcut.symm
                                        clear hcut
                                        subst hcut'
                                        go_wp2_with fail
                                        go_loopw [365] (fun i x => ∃ k : Nat, k ≤ A'.length ∧ i = .int .i64 k ∧ Below x7.heap.size x7 x) (fun i _ => A'.length - (intOf i).toNat)
                                        case atStart => exact ⟨0, by omega, rfl, Below.refl _ _⟩
                                        case round =>
                                          obtain ⟨k, hk, rfl, hbx⟩ := hrel
                                          have hFk := hF.keep hbx
                                          by_cases hlt : k < A'.length
                                          · as_aux_lemma =>
                                              have hown9 : wr.ownsRow B7 9 1 (.slice ep A'.length ec) A'.length (A'.map keyV) := row_kept hown8 fun g o _ ho => blk_below ho hbx (blk_lt ho)
                                              obtain ⟨g, hep, hc⟩ := row_cell hown9 hlt (keyAt_get hlt)
                                              subst hep
                                              obtain ⟨sv0, hlook⟩ := look_at hlt
                                              have hSvA : Svs A' := by rw [HA'.out]; exact foldA_svs _ _ _ hSv _
                                              obtain ⟨nb, af, hsv0⟩ := hSvA _ (look_mem hlook)
                                              simp only at hsv0
                                              subst hsv0
                                              obtain ⟨nm, hnm⟩ : ∃ nm, nm = keyAt A' k := ⟨_, rfl⟩
                                              rw [← hnm] at hc hlook
                                              clear hnm
                                              obtain ⟨sm', hsm, hsmm⟩ : ∃ s, sv' = .map (some s) ∧ StrMap wr s A' := by
                                                rcases hFk.set with ⟨_, h⟩ | ⟨b, h, hb⟩
                                                · rw [h] at hlt; simp at hlt
                                                · exact ⟨b, h, hb⟩
                                              have v0 : wr.cell? ⟨vb, 0, none⟩ = some (.map (some sm')) := by rw [cell_of_row _ _ _ _ _ _ hFk.blk, hsm]; rfl
                                              have hf := StrMap.find Yba.underlying61 Yba.underlying9 (zero71 wr) hsmm nm true
                                              rw [hlook] at hf
                                              simp only [Option.getD, Option.isSome, if_true, svOf] at hf
                                              have hfl := HA'.out ▸ foldA_look (textOf ks vs n3 n4) C nl A nm n3
                                              obtain ⟨X, hX⟩ : ∃ X, X = wr.alloc (.cells #[.pointer (some ⟨nb, 0, none⟩), .int .i64 af] 71) := ⟨_, rfl⟩
                                              have hbX : Below wr.heap.size wr X := by rw [hX]; exact (Below.refl _ _).alloc (Nat.le_refl _) _
                                              have hnX : X.heap[wr.heap.size]? = some (.cells #[.pointer (some ⟨nb, 0, none⟩), .int .i64 af] 71) := by rw [hX]; exact blk_new _ _
                                              have hFX := hFk.keep hbX
                                              have hks9 : StrsAt X (.slice a3 n3 c3) n3 ks := hks.keep (Nat.le_refl _) hFX.bel
                                              have hbx7 : Below x7.heap.size x7 X := hbx.trans (hbX.mono hbx.size)
                                              have d0 : X.cell? ⟨wr.heap.size, 0, none⟩ = some (.pointer (some ⟨nb, 0, none⟩)) := by rw [cell_of_row _ _ _ _ _ _ hnX]; rfl
                                              have d1 : X.cell? ⟨wr.heap.size, 1, none⟩ = some (.int .i64 af) := by rw [cell_of_row _ _ _ _ _ _ hnX]; rfl
                                              have i0 : (k : Int) < (A'.length : Int) := by omega
                                              have hAlb : (A'.length : Int) ≤ 100000 := by omega
                                              go_upto_region 87 with fail
                                              rw [← hX]
                                              clear hX
                                              go_wp2_with (go_at_call 19; refine (last_any _ _ _ nm _ hks9).mono ?_)
                                              rintro e x ⟨hx, r, rfl, hr⟩
                                              obtain rfl := hx.symm
                                              clear hf hc v0
                                              rcases hr with ⟨j, hj, rfl, hkj, hlj⟩ | ⟨rfl, hmiss⟩
                                              · have h1 := hfl.1 j hj (by rw [textOf_key hj]; exact hkj) (fun i hi hi2 => by rw [textOf_key hi2]; exact hlj i hi hi2)
                                                rw [hlook] at h1
                                                obtain ⟨hnb, haf⟩ := sv_inj (Option.some.inj h1)
                                                subst hnb
                                                subst haf
                                                obtain ⟨g2, hp34, hc34⟩ := row_cell hFX.r34 (show 2 * j + 1 < m by omega) (vals_get _ _ _ (by omega))
                                                subst hp34
                                                have e2 : X.cell? ⟨g2, 2 * j + 1, none⟩ = some (.pointer (some ⟨C (2 * j + 1), 0, none⟩)) := hc34
                                                have q43 := neq43
                                                obtain ⟨J, hJ⟩ : ∃ J, J = 2 * j := ⟨_, rfl⟩
                                                have j0 : (2 : Int) * (j : Int) = (J : Int) := by omega
                                                have j2 : (J : Int) + 1 < (m : Int) := by omega
                                                have j3 : (J : Int) ≤ 10000 := by omega
                                                have j4 : (0 : Int) ≤ (j : Int) := by omega
                                                rw [← hJ] at e2 d0
                                                clear hJ hc34 h1 hlook hnX
                                                go_wp2_with fail
                                                go_quiet (fail)
                                                go_wp2_with fail
                                                exact ⟨⟨k + 1, by omega, by go_num, below_drewN hbx7 _⟩, by simp [intOf]; omega⟩
                                              · have h1 := hfl.2 (fun i hi => by rw [textOf_key hi]; exact hmiss i hi)
                                                rw [hlook] at h1
                                                have hidx := strs_of_row hFX.r17 (by omega)
                                                go_wp2_with (go_at_call 12; refine (idx_any _ _ _ nm _ hidx).mono ?_)
                                                rintro e x ⟨hx, r, rfl, hr⟩
                                                obtain rfl := hx.symm
                                                rcases hr with ⟨p, hp, rfl, hkp, hfp⟩ | ⟨rfl, hmiss2⟩
                                                · obtain ⟨v1, hfi, hAp⟩ := idx_hit hp hkp hfp
                                                  rw [look_hit hfi] at h1
                                                  have hv1 := Option.some.inj h1
                                                  subst hv1
                                                  obtain ⟨u18p, u18c, hu18⟩ := row_form hFX.r18
                                                  have h18 := hFX.r18
                                                  rw [hu18] at h18
                                                  subst hu18
                                                  obtain ⟨g18, hp18, ea, eb⟩ := pair_cell h18 hSv rfl hAp
                                                  subst hp18
                                                  have q71 := neq71
                                                  have i1 : (p : Int) < (A.length : Int) := by omega
                                                  have hdp : decide ((p : Int) < 0) = false := by simp
                                                  clear hfi hAp h1 hlook hnX h18
                                                  go_wp2_with fail
                                                  go_quiet (fail)
                                                  go_wp2_with fail
                                                  exact ⟨⟨k + 1, by omega, by go_num, below_drewN hbx7 _⟩, by simp [intOf]; omega⟩
                                                · exfalso
                                                  rw [look_miss (idx_miss hmiss2)] at h1
                                                  cases h1
                                          · have hkm : A'.length = k := by omega
                                            clear hF hbx hlt hk
                                            rw [← hkm]
                                            clear hkm
                                            have hF := hFk
                                            clear hFk
                                            clear hF0 hS0 h0 hnilA
                                            obtain ⟨p24, c24, hu24⟩ := row_form hF.r24
                                            subst hu24
                                            obtain ⟨p25, c25, hu25⟩ := row_form hF.r25
                                            subst hu25
                                            obtain ⟨x8, hx8⟩ : ∃ x8, x8 = wr := ⟨_, rfl⟩
                                            rw [← hx8] at hF
                                            have q39 := fun w a m c => Lib.run_eql_slice_nil (P := Yba.prog) w 39 _ a m c 0 0 Yba.underlying39
                                            go_upto_if 415 with fail
                                            rw [← hx8]
                                            clear hx8
                                            go_cut [14, 46, 47, 48, 49, 50] from 414 to 466 (fun _ _ _ _ _ _ x => Below x8.heap.size x8 x)
                                            case first =>
                                              have v5 : x8.cell? ⟨vb, 5, none⟩ = some fv := by rw [cell_of_row _ _ _ _ _ _ hF.blk]; rfl
                                              cases a2 with
                                              | none =>
                                                rw [hfn rfl] at v5
                                                clear hfn hfs1
                                                have q63 := neq63n
                                                go_wp2_with fail
                                                go_meet
                                                exact Below.refl _ _
                                              | some ad =>
                                                rw [show (some ad : Option Addr).isNone = false from rfl]
                                                obtain ⟨fm, hfv⟩ := hfs1 (fun h => nomatch h)
                                                rw [hfv] at v5
                                                clear hfn hfs1
                                                have q63 := eql63
                                                obtain ⟨T9, hT9⟩ : ∃ f : ByteArray × Value → Bool, f = fun p => decide (∀ i, i < n3 → textOf ks vs n3 n4 (2 * i) ≠ p.1) := ⟨_, rfl⟩
                                                have hF9 : F' = F.filter T9 := by rw [HF'.out, hT9]; exact foldF_eq _ hND n3
                                                have hcnt0 : cntOf F T9 0 = 0 := by simp [cntOf]
                                                have HT9 : Hid (T9 = fun p => decide (∀ i, i < n3 → textOf ks vs n3 n4 (2 * i) ≠ p.1)) := hT9
                                                have HF9 : Hid (F' = F.filter T9) := hF9
                                                have Hfv : Hid (fv = .map (some fm)) := hfv
                                                have Hc0 : Hid (cntOf F T9 0 = 0) := hcnt0
                                                clear hT9 hF9 hfv hcnt0
                                                have hFb : F.length ≤ 4096 := by omega
                                                go_wp2_with fail
                                                go_loopw [46, 428] (fun kp i x => ∃ k : Nat, k ≤ F.length ∧ i = .int .i64 k ∧ kp = .int .i64 (cntOf F T9 k) ∧ Below x8.heap.size x8 x) (fun _ i _ => F.length - (intOf i).toNat)
                                                case atStart => exact ⟨0, by omega, rfl, by rw [Hc0.out]; rfl, Below.refl _ _⟩
                                                case round =>
                                                  obtain ⟨k, hk, rfl, rfl, hbx⟩ := hrel
                                                  have hFk := hF.keep hbx
                                                  have w5 : wr.cell? ⟨vb, 5, none⟩ = some (.map (some fm)) := by rw [cell_of_row _ _ _ _ _ _ hFk.blk, Hfv.out]; rfl
                                                  have hfmm : StrMap wr fm F' := by
                                                    have hfv := Hfv.out
                                                    rcases hFk.found with ⟨h, _⟩ | ⟨b, h, hb⟩
                                                    · rw [h] at hfv; cases hfv
                                                    · rw [h] at hfv; cases hfv; exact hb
                                                  by_cases hlt : k < F.length
                                                  · as_aux_lemma =>
                                                      obtain ⟨g, hp24, hc⟩ := row_cell hFk.r24 hlt (keyAt_get hlt)
                                                      subst hp24
                                                      obtain ⟨pr, hpr⟩ : ∃ pr, F[k]? = some pr := ⟨_, List.getElem?_eq_getElem hlt⟩
                                                      obtain ⟨nm, vv⟩ := pr
                                                      obtain ⟨nb, hvv⟩ := hPt _ (List.mem_of_getElem? hpr)
                                                      simp only at hvv
                                                      subst hvv
                                                      rw [get_keyAt hpr] at hc
                                                      obtain ⟨g25, hp25, hc25⟩ := row_cell (v := ptr nb) hFk.r25 hlt (by rw [List.getElem?_map, hpr]; rfl)
                                                      subst hp25
                                                      unfold ptr at hc25
                                                      have hks9 : StrsAt wr (.slice a3 n3 c3) n3 ks := hks.keep (Nat.le_refl _) hFk.bel
                                                      have hf := StrMap.find Yba.underlying63 Yba.underlying9 (zero43 wr) hfmm nm true
                                                      have hcs := cntOf_step (f := T9) hpr
                                                      have hcl := cntOf_le F T9 k
                                                      have i0 : (k : Int) < (F.length : Int) := by omega
                                                      by_cases hm9 : ∃ j, j < n3 ∧ ks j = nm
                                                      · have hT0 : T9 (nm, ptr nb) = false := by
                                                          obtain ⟨j, hj, hjn⟩ := hm9
                                                          rw [HT9.out]
                                                          exact decide_eq_false fun h => h j hj (by rw [textOf_key hj]; exact hjn)
                                                        have hl9 : SM.look F' nm = none := by
                                                          rw [HF9.out]
                                                          refine look_filter_none _ fun q hq hqn => ?_
                                                          obtain ⟨j, hj, hjn⟩ := hm9
                                                          rw [HT9.out]
                                                          exact decide_eq_false fun h => h j hj (by rw [textOf_key hj, hjn]; exact hqn.symm)
                                                        rw [hl9] at hf
                                                        rw [hT0] at hcs
                                                        simp only [Option.getD, Option.isSome, if_true] at hf
                                                        simp only [Bool.false_eq_true, if_false, Nat.add_zero] at hcs
                                                        clear hT0 hl9
                                                        go_wp2_with (go_at_call 12; refine (idx_any _ _ _ nm _ hks9).mono ?_)
                                                        rintro e x ⟨hx, r, rfl, hr⟩
                                                        obtain rfl := hx.symm
                                                        rcases hr with ⟨j, hj, rfl, hkj, hfj⟩ | ⟨rfl, hmiss⟩
                                                        · have j4 : decide ((0 : Int) ≤ (j : Int)) = true := by simp
                                                          go_wp2_with fail
                                                          exact ⟨⟨k + 1, by omega, by go_num, by rw [hcs], hbx⟩, by simp [intOf]; omega⟩
                                                        · exfalso
                                                          obtain ⟨j, hj, hjn⟩ := hm9
                                                          exact hmiss j hj hjn
                                                      · have hT1 : T9 (nm, ptr nb) = true := by
                                                          rw [HT9.out]
                                                          exact decide_eq_true fun i hi h => hm9 ⟨i, hi, by rw [textOf_key hi] at h; exact h⟩
                                                        have hl9 : SM.look F' nm = some (.pointer (some ⟨nb, 0, none⟩)) := by
                                                          rw [HF9.out, look_filter _ fun q hq hqn => ?_]
                                                          · exact look_nd hND hpr
                                                          · rw [HT9.out]
                                                            exact decide_eq_true fun i hi h => hm9 ⟨i, hi, by rw [textOf_key hi] at h; rw [h]; exact hqn⟩
                                                        rw [hl9] at hf
                                                        rw [hT1] at hcs
                                                        simp only [Option.getD, Option.isSome, if_true] at hf
                                                        simp only [if_true] at hcs
                                                        clear hT1 hl9
                                                        have q43 := neq43
                                                        go_wp2_with (go_at_call 12; refine (idx_any _ _ _ nm _ hks9).mono ?_)
                                                        rintro e x ⟨hx, r, rfl, hr⟩
                                                        obtain rfl := hx.symm
                                                        rcases hr with ⟨j, hj, rfl, hkj, hfj⟩ | ⟨rfl, hmiss⟩
                                                        · exact absurd ⟨j, hj, hkj⟩ hm9
                                                        · go_wp2_with fail
                                                          exact ⟨⟨k + 1, by omega, by go_num, by rw [hcs]; rfl, hbx⟩, by simp [intOf]; omega⟩
                                                  · have hkm : F.length = k := by omega
                                                    have hce : cntOf F T9 k = F'.length := by rw [← hkm, cntOf_end, HF9.out]
                                                    rw [hce]
                                                    have hlen := hfmm.len (P := Yba.prog) (ty := 3) Yba.underlying63
                                                    have hge : ¬ ((k : Int) < (F.length : Int)) := by omega
                                                    clear hce hkm hk
                                                    have hnn : ((F'.length : Int) != (F'.length : Int)) = false := by simp
                                                    go_wp2_with fail
                                                    go_meet
                                                    exact hbx
                                            case rest =>
                                              have hFk := hF.keep hcut
                                              clear hF
                                              have hF := hFk
                                              clear hFk
                                              have z2 : wc.cell? ⟨vb, 2, none⟩ = some (.slice lp nl lc) := by rw [cell_of_row _ _ _ _ _ _ hF.blk]; rfl
                                              have z3 : wc.cell? ⟨vb, 3, none⟩ = some (.map (some stb)) := by rw [cell_of_row _ _ _ _ _ _ hF.blk]; rfl
                                              have z4 : wc.cell? ⟨vb, 4, none⟩ = some (.map (some sgb)) := by rw [cell_of_row _ _ _ _ _ _ hF.blk]; rfl
                                              have z6 : wc.cell? ⟨vb, 6, none⟩ = some (.int .i64 by_) := by rw [cell_of_row _ _ _ _ _ _ hF.blk]; rfl
                                              have zs : wc.cell? ⟨sn, 3, none⟩ = some (.string { data := #[115] }) := by rw [cell_of_row _ _ _ _ _ _ hF.snode]; rfl
                                              have l3 := hF.smap.len (P := Yba.prog) (ty := 3) Yba.underlying63
                                              have l4 := hF.gmap.len (P := Yba.prog) (ty := 3) Yba.underlying64
                                              have f3 := StrMap.find Yba.underlying63 Yba.underlying9 (zero43 wc) hF.smap { data := #[115] } false
                                              have f4 := StrMap.find Yba.underlying64 Yba.underlying9 (zero4 wc) hF.gmap { data := #[103] } false
                                              have f3' : (Instr.lookup 63 (.map (some stb)) (.string { data := #[115] }) false).run Yba.prog wc = .ok (.pointer (some ⟨sn, 0, none⟩)) wc := f3
                                              have f4' : (Instr.lookup 64 (.map (some sgb)) (.string { data := #[103] }) false).run Yba.prog wc = .ok (.bool true) wc := f4
                                              clear f3 f4
                                              have q43 := neq43
                                              have n1 : ((nl : Int) != (nl : Int)) = false := by simp
                                              have n2' : (by_ != by_) = false := by simp
                                              go_wp2_with fail
                                              go_ret
                                              exact ⟨rfl, hF.bel⟩
end Go.Proofs.Ybulkexpby
