/- LawS194118BWhole: zzs194118band (7). -/
import Derived.Test.YbulkexpecFmtTerms
namespace Go.Proofs.YbulkexpecFmt
open Go.RowKit Go.PK Go.Shelf Go.RegInv
set_option linter.unusedVariables false
set_option linter.unusedSimpArgs false

/-- What band has gathered of the expressions seen. -/
structure BandAt (w : World) (B : Nat) (tv : Value) (l es : List EX) : Prop where
  row : TRow w B tv l
  perm : l.Perm (es.foldl addL [])
  srt : Srt l
theorem BandAt.moved {w w' : World} {B : Nat} {tv : Value} {l es : List EX} (h : BandAt w B tv l es) (hm : Moved w w' (fun _ => False)) : BandAt w' B tv l es := ⟨h.row.moved hm, h.perm, h.srt⟩
theorem addL_id {D : List EX} {e : EX} (h : e.1 = noStr) : addL D e = D := if_pos h
theorem addL_dup {D : List EX} {e : EX} (h : dupT D e = true) : addL D e = D := by
  unfold addL
  split
  · rfl
  · exact if_pos h
theorem addL_new {D : List EX} {e : EX} (he : e.1 ≠ noStr) (h : dupT D e = false) : addL D e = D ++ [e] := by
  unfold addL
  rw [if_neg he]
  exact if_neg (by unfold dupT at h; rw [h]; decide)
theorem dupT_perm {l l' : List EX} (h : l.Perm l') (e : EX) : dupT l e = dupT l' e := any_perm h _
theorem BandAt.skip0 {w : World} {B : Nat} {tv : Value} {l es : List EX} {e : EX} (h : BandAt w B tv l es) (he : e.1 = noStr) : BandAt w B tv l (es ++ [e]) := by
  refine ⟨h.row, ?_, h.srt⟩
  rw [List.foldl_append]
  show l.Perm (addL _ e)
  rw [addL_id he]
  exact h.perm
theorem BandAt.skip {w : World} {B : Nat} {tv : Value} {l es : List EX} {e : EX} (h : BandAt w B tv l es) (hd : dupT l e = true) : BandAt w B tv l (es ++ [e]) := by
  refine ⟨h.row, ?_, h.srt⟩
  rw [List.foldl_append]
  show l.Perm (addL _ e)
  rw [addL_dup (by rw [← dupT_perm h.perm]; exact hd)]
  exact h.perm
theorem BandAt.ins {w : World} {B : Nat} {tv : Value} {A S es : List EX} {e : EX} (hr : TRow w B tv (A ++ e :: S)) (hp : (A ++ S).Perm (es.foldl addL [])) (hs : Srt (A ++ S)) (he : e.1 ≠ noStr) (hd : dupT (A ++ S) e = false) (hB : ∀ x ∈ S, ltE e x = true) (hA : ∀ A' x, A = A' ++ [x] → ltE e x = false) : BandAt w B tv (A ++ e :: S) (es ++ [e]) := by
  refine ⟨hr, ?_, srt_insert hs hB hA⟩
  rw [List.foldl_append]
  show (A ++ e :: S).Perm (addL _ e)
  rw [addL_new he (by rw [← dupT_perm hp]; exact hd)]
  exact (List.perm_middle.trans (List.Perm.cons e hp)).trans (List.perm_append_singleton e _).symm
theorem dupT_succ {l : List EX} {e : EX} {q : Nat} (hq : q < l.length) : dupT (l.take (q + 1)) e = (dupT (l.take q) e || ((textOf l[q].1 l[q].2).toList == (textOf e.1 e.2).toList)) := by
  unfold dupT
  rw [← List.take_append_getElem hq, List.any_append]
  simp

set_option maxHeartbeats 8000000 in
set_option maxRecDepth 100000 in
theorem band_any (gb cap : Nat) (es : List EX) (w : World) (hT : TermsAt w gb es) (hsh : Short es) (hl : es.length ≤ 4096) :
    Calls Ybaf.prog 7 #[.slice (some ⟨gb, 0, none⟩) es.length cap] w fun r w' => Hid (∃ a b c d y, r = .returned (.agg #[a, b, c, d]) ∧ XAt w' a b c d y ∧ JoinOut (es.foldl addL []) y ∧ Moved w w' (fun _ => False)) := by
  obtain ⟨n, hn⟩ : ∃ n, n = es.length := ⟨_, rfl⟩
  have HN : Hid (n = es.length) := hn
  rw [← hn] at hl ⊢
  clear hn
  obtain ⟨R, hR⟩ : ∃ R, R = w.heap.size := ⟨_, rfl⟩
  obtain ⟨W0, hW0⟩ : ∃ W0, W0 = w.alloc (.cells #[.int .i64 0, .string ⟨#[]⟩, .string ⟨#[]⟩, .slice none 0 0] 31) := ⟨_, rfl⟩
  obtain ⟨B, hB⟩ : ∃ B, B = W0.heap.size := ⟨_, rfl⟩
  have hRb : W0.heap[R]? = some (.cells #[.int .i64 0, .string ⟨#[]⟩, .string ⟨#[]⟩, .slice none 0 0] 31) := by rw [hW0]; exact blk_at hR
  have hm0 : Moved w W0 (fun _ => False) := by rw [hW0]; exact Moved.alloc w _ _
  have hTW : TermsAt W0 gb es := hT.keep fun j v hc => hm0.cell hc (fun h => h)
  go_enter Ybaf.func7, Ybaf.ntmps7
  go_wp2_with fail
  rw [← hR, ← hW0]
  have HB : Hid (B = W0.heap.size) := hB
  have HR : Hid (R = w.heap.size) := hR
  clear hB hW0 hR
  go_loopw [3, 13] (fun tv i y => Hid (∃ (j : Nat) (l : List EX), j ≤ n ∧ i = .int .i64 (j : Int) ∧ BandAt y B tv l (es.take j) ∧ Moved W0 y (fun _ => False))) (fun _ i _ => n - (intOf i).toNat)
  case atStart => exact ⟨0, [], by omega, rfl, ⟨⟨World.ownsRow_nil _ _ _ _, fun _ => rfl⟩, List.Perm.refl _, List.Pairwise.nil⟩, Moved.refl _ _⟩
  case round =>
    obtain ⟨j, l, hj, rfl, hA, hmv⟩ := hrel.out
    clear hrel
    have hll : l.length ≤ 4096 := by
      rw [hA.perm.length_eq]
      have h1 := foldl_addL_len (es.take j) []
      have h2 : (es.take j).length ≤ j := by rw [List.length_take]; omega
      simp only [List.length_nil] at h1
      omega
    by_cases hlt : j < n
    · have hje : j < es.length := by rw [← HN.out]; exact hlt
      obtain ⟨a0, a1, a2, a3⟩ := (hTW.keep fun j v hc => hmv.cell hc (fun h => h)) j hje
      have hesh := hsh es[j] (List.getElem_mem hje)
      have hsucc : Hid (es.take (j + 1) = es.take j ++ [es[j]]) := (List.take_append_getElem hje).symm
      obtain ⟨e, he⟩ : ∃ e, e = es[j] := ⟨_, rfl⟩
      rw [← he] at a1 a2 hesh hsucc
      clear he
      have hlsh : Short l := fun p hp => by
        rcases foldl_addL_mem (hA.perm.mem_iff.1 hp) with h | h
        · simp at h
        · exact hsh p (List.mem_of_mem_take h)
      obtain ⟨ei, ex⟩ := e
      obtain ⟨ad, cp, htv, hadf⟩ : ∃ ad cp, u3 = .slice ad l.length cp ∧ (0 < l.length → ∃ g, ad = some ⟨g, 0, none⟩) := by
        rcases Joins.ownsRow_forms hA.row.row with ⟨h1, h2⟩ | ⟨g, cap1, h1⟩
        · have : l.length = 0 := by
            rcases Nat.eq_zero_or_pos l.length with h3 | h3
            · exact h3
            · obtain ⟨g, cap1, h4⟩ := hA.row.form h3
              rw [h4] at h1
              cases h1
          exact ⟨none, 0, by rw [h1, this], fun h => by omega⟩
        · exact ⟨_, cap1, h1, fun _ => ⟨g, rfl⟩⟩
      subst htv
      have HL : Hid (Short l ∧ (0 < l.length → ∃ g, ad = some ⟨g, 0, none⟩)) := ⟨hlsh, hadf⟩
      clear hlsh hadf
      obtain ⟨W1, hW1⟩ : ∃ W1, W1 = wr.alloc (.cells #[.int .i64 0, .string ei, .string ex, .slice none 0 0] 31) := ⟨_, rfl⟩
      have hm1 : Moved wr W1 (fun _ => False) := by rw [hW1]; exact Moved.alloc wr _ _
      have hb5 : W1.heap[wr.heap.size]? = some (.cells #[.int .i64 0, .string ei, .string ex, .slice none 0 0] 31) := by rw [hW1]; exact blk_new _ _
      have hmv1 : Moved W0 W1 (fun _ => False) := hmv.trans hm1 (fun _ h => h.elim)
      have hA1 := hA.moved hm1
      clear hA hm1
      by_cases hid : ei = noStr
      · have hie := em_t hid
        have HID : Hid (ei = noStr) := hid
        clear hid
        go_wp2_with fail
        rw [← hW1]
        clear hW1
        exact ⟨⟨j + 1, l, by omega, by simp, by rw [hsucc.out]; exact hA1.skip0 HID.out, hmv1⟩, by simp [intOf]; omega⟩
      · have hie := em_f hid
        go_wp2_with fail
        rw [← hW1]
        clear hW1
        have d0 : W1.cell? ⟨wr.heap.size, 0, none⟩ = some (.int .i64 0) := by rw [cell_of_row _ _ _ _ _ _ hb5]; rfl
        have d1 : W1.cell? ⟨wr.heap.size, 1, none⟩ = some (.string ei) := by rw [cell_of_row _ _ _ _ _ _ hb5]; rfl
        have d2 : W1.cell? ⟨wr.heap.size, 2, none⟩ = some (.string ex) := by rw [cell_of_row _ _ _ _ _ _ hb5]; rfl
        have d3 : W1.cell? ⟨wr.heap.size, 3, none⟩ = some (.slice none 0 0) := by rw [cell_of_row _ _ _ _ _ _ hb5]; rfl
        generalize wr.heap.size = t5 at *
        go_loopw [6, 22] (fun b i y => Hid (∃ q : Nat, q ≤ l.length ∧ i = .int .i64 (q : Int) ∧ b = .bool (dupT (l.take q) (ei, ex)) ∧ Moved W1 y (fun _ => False))) (fun _ i _ => l.length - (intOf i).toNat)
        case atStart => exact ⟨0, by omega, rfl, rfl, Moved.refl _ _⟩
        case round =>
          obtain ⟨q, hq, rfl, rfl, hmq⟩ := hrel.out
          clear hrel
          by_cases hql : q < l.length
          · obtain ⟨g, rfl⟩ := HL.out.2 (by omega)
            have hksh := HL.out.1 l[q] (List.getElem_mem hql)
            have hds := dupT_succ (e := (ei, ex)) hql
            obtain ⟨k0, k1, k2, k3⟩ := own4_terms rfl (hA1.moved hmq).row.row q hql
            have f0 := hmq.cell d0 (fun h => h)
            have f1 := hmq.cell d1 (fun h => h)
            have f2 := hmq.cell d2 (fun h => h)
            have f3 := hmq.cell d3 (fun h => h)
            generalize hki : l[q].1 = ki at *
            generalize hkx : l[q].2 = kx at *
            obtain ⟨o8, ho8⟩ : ∃ o8 : Obj, o8 = .cells #[.int .i64 0, .string ki, .string kx, .slice none 0 0] 31 := ⟨_, rfl⟩
            have hb8 : (wr.alloc o8).heap[wr.heap.size]? = some (.cells #[.int .i64 0, .string ki, .string kx, .slice none 0 0] 31) := by rw [ho8]; exact blk_new _ _
            have hm8 : Moved wr (wr.alloc o8) (fun _ => False) := Moved.alloc _ _ _
            go_upto_region 10 with fail
            rw [← ho8]
            clear ho8
            have m0 : (wr.alloc o8).cell? ⟨wr.heap.size, 0, none⟩ = some (.int .i64 0) := by rw [cell_of_row _ _ _ _ _ _ hb8]; rfl
            have m1 : (wr.alloc o8).cell? ⟨wr.heap.size, 1, none⟩ = some (.string ki) := by rw [cell_of_row _ _ _ _ _ _ hb8]; rfl
            have m2 : (wr.alloc o8).cell? ⟨wr.heap.size, 2, none⟩ = some (.string kx) := by rw [cell_of_row _ _ _ _ _ _ hb8]; rfl
            have m3 : (wr.alloc o8).cell? ⟨wr.heap.size, 3, none⟩ = some (.slice none 0 0) := by rw [cell_of_row _ _ _ _ _ _ hb8]; rfl
            have n0 := hm8.cell f0 (fun h => h)
            have n1 := hm8.cell f1 (fun h => h)
            have n2 := hm8.cell f2 (fun h => h)
            have n3 := hm8.cell f3 (fun h => h)
            have hmq8 : Moved W1 (wr.alloc o8) (fun _ => False) := hmq.trans hm8 (fun _ h => h.elim)
            clear hb8 hm8 f0 f1 f2 f3 k0 k1 k2 k3 hmq
            generalize wr.heap.size = t8 at *
            generalize wr.alloc o8 = W2 at *
            have hkS : ∀ (W : World) (o : Obj), (W.cell? ⟨t8, 0, none⟩ = some (.int .i64 0) ∧ W.cell? ⟨t8, 1, none⟩ = some (.string ki) ∧ W.cell? ⟨t8, 2, none⟩ = some (.string kx) ∧ W.cell? ⟨t8, 3, none⟩ = some (.slice none 0 0) ∧ W.cell? ⟨t5, 0, none⟩ = some (.int .i64 0) ∧ W.cell? ⟨t5, 1, none⟩ = some (.string ei) ∧ W.cell? ⟨t5, 2, none⟩ = some (.string ex) ∧ W.cell? ⟨t5, 3, none⟩ = some (.slice none 0 0)) → ((W.alloc o).cell? ⟨t8, 0, none⟩ = some (.int .i64 0) ∧ (W.alloc o).cell? ⟨t8, 1, none⟩ = some (.string ki) ∧ (W.alloc o).cell? ⟨t8, 2, none⟩ = some (.string kx) ∧ (W.alloc o).cell? ⟨t8, 3, none⟩ = some (.slice none 0 0) ∧ (W.alloc o).cell? ⟨t5, 0, none⟩ = some (.int .i64 0) ∧ (W.alloc o).cell? ⟨t5, 1, none⟩ = some (.string ei) ∧ (W.alloc o).cell? ⟨t5, 2, none⟩ = some (.string ex) ∧ (W.alloc o).cell? ⟨t5, 3, none⟩ = some (.slice none 0 0)) := fun W o ⟨s0, s1, s2, s3, s4, s5, s6, s7⟩ => ⟨by rw [World.cell?_alloc_lt _ _ _ (World.block_lt_of_cell? W _ s0)]; exact s0, by rw [World.cell?_alloc_lt _ _ _ (World.block_lt_of_cell? W _ s1)]; exact s1, by rw [World.cell?_alloc_lt _ _ _ (World.block_lt_of_cell? W _ s2)]; exact s2, by rw [World.cell?_alloc_lt _ _ _ (World.block_lt_of_cell? W _ s3)]; exact s3, by rw [World.cell?_alloc_lt _ _ _ (World.block_lt_of_cell? W _ s4)]; exact s4, by rw [World.cell?_alloc_lt _ _ _ (World.block_lt_of_cell? W _ s5)]; exact s5, by rw [World.cell?_alloc_lt _ _ _ (World.block_lt_of_cell? W _ s6)]; exact s6, by rw [World.cell?_alloc_lt _ _ _ (World.block_lt_of_cell? W _ s7)]; exact s7⟩
            refine wp_region_s (S := fun w' => w'.cell? ⟨t8, 0, none⟩ = some (.int .i64 0) ∧ w'.cell? ⟨t8, 1, none⟩ = some (.string ki) ∧ w'.cell? ⟨t8, 2, none⟩ = some (.string kx) ∧ w'.cell? ⟨t8, 3, none⟩ = some (.slice none 0 0) ∧ w'.cell? ⟨t5, 0, none⟩ = some (.int .i64 0) ∧ w'.cell? ⟨t5, 1, none⟩ = some (.string ei) ∧ w'.cell? ⟨t5, 2, none⟩ = some (.string ex) ∧ w'.cell? ⟨t5, 3, none⟩ = some (.slice none 0 0)) (by kernel_rfl) ⟨m0, m1, m2, m3, n0, n1, n2, n3⟩ (fun hS => ?_)
            refine wpAnyH_take (i := 0) (v := .agg #[.int .i64 0, .string ki, .string kx, .slice none 0 0]) rfl (by kernel_rfl) (by kernel_rfl) (by kernel_rfl) (fun _ _ _ h => h) (Or.inl ⟨by rfl, fun W hW => ?_⟩) hS ?_
            · obtain ⟨s0, s1, s2, s3, s4, s5, s6, s7⟩ := hW
              go_simp
            try simp only [Act.put, List.setIfInBounds_toArray, List.set_cons_zero, List.set_cons_succ, List.getElem_toArray, List.getElem_cons_zero, List.getElem_cons_succ]
            refine wpAnyH_take (i := 2) (v := .agg #[.int .i64 0, .string ei, .string ex, .slice none 0 0]) rfl (by kernel_rfl) (by kernel_rfl) (by kernel_rfl) (fun _ _ _ h => h) (Or.inl ⟨by rfl, fun W hW => ?_⟩) hS ?_
            · obtain ⟨s0, s1, s2, s3, s4, s5, s6, s7⟩ := hW
              go_simp
            try simp only [Act.put, List.setIfInBounds_toArray, List.set_cons_zero, List.set_cons_succ, List.getElem_toArray, List.getElem_cons_zero, List.getElem_cons_succ]
            refine wpAnyH_ready (rs := [1]) (by kernel_rfl) (by simp) (AllReadyH.cons rfl (fun K hK => ?_) AllReadyH.nil)
            rw [if_pos (by rfl)]
            go_simp
            refine (text_any _ _ ki kx _ hksh.1 hksh.2).mono ?_
            rintro r W ⟨rfl, hWe⟩
            rw [hWe]
            clear hWe W
            refine hK.out _ _ (hkS _ _ hS) (fun hS => ?_)
            clear hK K
            try simp only [Act.put, List.setIfInBounds_toArray, List.set_cons_zero, List.set_cons_succ, List.getElem_toArray, List.getElem_cons_zero, List.getElem_cons_succ]
            refine wpAnyH_ready (rs := [3]) (by kernel_rfl) (by simp) (AllReadyH.cons rfl (fun K hK => ?_) AllReadyH.nil)
            rw [if_pos (by rfl)]
            go_simp
            refine (text_any _ _ ei ex _ hesh.1 hesh.2).mono ?_
            rintro r W ⟨rfl, hWe⟩
            rw [hWe]
            clear hWe W
            refine hK.out _ _ (hkS _ _ hS) (fun hS => ?_)
            clear hK K
            try simp only [Act.put, List.setIfInBounds_toArray, List.set_cons_zero, List.set_cons_succ, List.getElem_toArray, List.getElem_cons_zero, List.getElem_cons_succ]
            cases hbb : ((textOf ki kx).toList == (textOf ei ex).toList) with
            | false =>
              refine wpAnyH_take (i := 4) (v := .bool false) rfl (by kernel_rfl) (by kernel_rfl) (by kernel_rfl) (fun _ _ _ h => h) (Or.inl ⟨by rfl, fun W hW => ?_⟩) hS ?_
              · obtain ⟨s0, s1, s2, s3, s4, s5, s6, s7⟩ := hW
                go_simp
              try simp only [Act.put, List.setIfInBounds_toArray, List.set_cons_zero, List.set_cons_succ, List.getElem_toArray, List.getElem_cons_zero, List.getElem_cons_succ]
              refine wpAnyH_done (by kernel_rfl) ?_ _
              have hm9 : Moved W1 _ (fun _ => False) := (hmq8.drew.trans (Moved.alloc _ (.cells #[.int .i64 0, .string ki, .string kx, .slice none 0 0] 31) (fun _ => False)) (fun _ h => h.elim)).trans (Moved.alloc _ (.cells #[.int .i64 0, .string ei, .string ex, .slice none 0 0] 31) (fun _ => False)) (fun _ h => h.elim)
              rw [hbb] at hds
              clear hS hkS
              go_simp
              go_wp2_with fail
              exact ⟨⟨q + 1, by omega, by simp, by rw [hds]; simp, hm9⟩, by simp [intOf]; omega⟩
            | true =>
              refine wpAnyH_take (i := 4) (v := .bool true) rfl (by kernel_rfl) (by kernel_rfl) (by kernel_rfl) (fun _ _ _ h => h) (Or.inl ⟨by rfl, fun W hW => ?_⟩) hS ?_
              · obtain ⟨s0, s1, s2, s3, s4, s5, s6, s7⟩ := hW
                go_simp
              try simp only [Act.put, List.setIfInBounds_toArray, List.set_cons_zero, List.set_cons_succ, List.getElem_toArray, List.getElem_cons_zero, List.getElem_cons_succ]
              refine wpAnyH_done (by kernel_rfl) ?_ _
              have hm9 : Moved W1 _ (fun _ => False) := (hmq8.drew.trans (Moved.alloc _ (.cells #[.int .i64 0, .string ki, .string kx, .slice none 0 0] 31) (fun _ => False)) (fun _ h => h.elim)).trans (Moved.alloc _ (.cells #[.int .i64 0, .string ei, .string ex, .slice none 0 0] 31) (fun _ => False)) (fun _ h => h.elim)
              rw [hbb] at hds
              clear hS hkS
              go_simp
              go_wp2_with fail
              exact ⟨⟨q + 1, by omega, by simp, by rw [hds]; simp, hm9⟩, by simp [intOf]; omega⟩
          · have hqe : q = l.length := by omega
            subst hqe
            rw [List.take_length] at *
            have hA2 := hA1.moved hmq
            have hm2 : Moved W0 wr (fun _ => False) := hmv1.trans hmq (fun _ h => h.elim)
            have f0 := hmq.cell d0 (fun h => h)
            have f1 := hmq.cell d1 (fun h => h)
            have f2 := hmq.cell d2 (fun h => h)
            have f3 := hmq.cell d3 (fun h => h)
            clear hA1 hmq hmv1 hb5 d0 d1 d2 d3
            cases hdup : dupT l (ei, ex) with
            | true =>
              go_wp2_with fail
              exact ⟨⟨j + 1, l, by omega, by simp, by rw [hsucc.out]; exact hA2.skip hdup, hm2⟩, by simp [intOf]; omega⟩
            | false =>
              obtain ⟨o9, ho9⟩ : ∃ o9 : Obj, o9 = .cells #[.int .i64 0, .string ei, .string ex, .slice none 0 0] 31 := ⟨_, rfl⟩
              have hm9 : Moved wr (wr.alloc o9) (fun _ => False) := Moved.alloc _ _ _
              have hA3 := hA2.moved hm9
              have hm3 : Moved W0 (wr.alloc o9) (fun _ => False) := hm2.trans hm9 (fun _ h => h.elim)
              have hb9 : (wr.alloc o9).heap[wr.heap.size]? = some (.cells #[.int .i64 0, .string ei, .string ex, .slice none 0 0] 31) := by rw [ho9]; exact blk_new _ _
              have hBs : B ≤ (wr.alloc o9).heap.size := by rw [HB.out]; exact hm3.size
              rw [ho9] at hA3 hm3 hb9 hBs
              clear ho9 hm9 hA2 hm2
              go_wp2_with (refine wpList_appk _ rfl _ _ 29 rfl B 31 _ 4 64 Ybaf.underlying29 info31 rfl (by omega) (.slice ad l.length cp) l.length (l.flatMap enc4) rfl hA3.row.row wr.heap.size 1 [.int .i64 0, .string ei, .string ex, .slice none 0 0] rfl rfl (cells_of_block (cs := #[.int .i64 0, .string ei, .string ex, .slice none 0 0]) (t := 31) hb9) (by simp [Value.oneCell']) (by unfold maxLen; omega) (by omega) hBs ?happ)
              intro g' cap' wA hown hgrow _
              have hmA : Moved W0 wA (fun _ => False) := hA3.row.grown hgrow hm3 (by rw [HB.out]; exact Nat.le_refl _)
              have hRA : TRow wA B (.slice (some ⟨g', 0, none⟩) (l.length + 1) cap') (l ++ [(ei, ex)]) := TRow.push hown
              have hpm := hA3.perm
              have hsr := hA3.srt
              have HLs := HL.out.1
              clear hown hgrow hA3 hm3 hb9 hBs f0 f1 f2 f3 HL
              go_wp2_with fail
              go_loopw [9] (fun v y => Hid (∃ (p : Nat) (A S : List EX), l = A ++ S ∧ p = A.length ∧ v = .int .i64 (p : Int) ∧ TRow y B (.slice (some ⟨g', 0, none⟩) (l.length + 1) cap') (A ++ (ei, ex) :: S) ∧ (∀ x ∈ S, ltE (ei, ex) x = true) ∧ Moved W0 y (fun _ => False))) (fun v _ => (intOf v).toNat)
              case atStart => exact ⟨l.length, l, [], by simp, rfl, by simp, hRA, fun x hx => by simp at hx, hmA⟩
              case round =>
                obtain ⟨p, A, S, hlA, hpA, rfl, hRp, hSl, hmp⟩ := hrel.out
                have HA : Hid (l = A ++ S ∧ p = A.length) := ⟨hlA, hpA⟩
                have hpl : p ≤ l.length := by rw [hlA, hpA, List.length_append]; omega
                clear hrel hlA hpA hRA hmA
                rcases Nat.eq_zero_or_pos p with hp0 | hp0
                · subst hp0
                  have hA0 : A = [] := List.length_eq_zero_iff.1 HA.out.2.symm
                  go_upto_region 16 with fail
                  refine wp_region_s (S := fun _ => True) (by kernel_rfl) trivial (fun hS => ?_)
                  refine wpAnyH_take (i := 0) (v := .int .i64 0) rfl (by kernel_rfl) (by kernel_rfl) (by kernel_rfl) (fun _ _ _ h => h) (Or.inl ⟨by rfl, fun W hW => ?_⟩) hS ?_
                  · go_simp
                  try simp only [Act.put, List.setIfInBounds_toArray, List.set_cons_zero, List.set_cons_succ, List.getElem_toArray, List.getElem_cons_zero, List.getElem_cons_succ]
                  refine wpAnyH_take (i := 1) (v := .bool false) rfl (by kernel_rfl) (by kernel_rfl) (by kernel_rfl) (fun _ _ _ h => h) (Or.inl ⟨by rfl, fun W hW => ?_⟩) hS ?_
                  · go_simp
                  try simp only [Act.put, List.setIfInBounds_toArray, List.set_cons_zero, List.set_cons_succ, List.getElem_toArray, List.getElem_cons_zero, List.getElem_cons_succ]
                  refine wpAnyH_take (i := 2) (v := .bool false) rfl (by kernel_rfl) (by kernel_rfl) (by kernel_rfl) (fun _ _ _ h => h) (Or.inl ⟨by rfl, fun W hW => ?_⟩) hS ?_
                  · go_simp
                  try simp only [Act.put, List.setIfInBounds_toArray, List.set_cons_zero, List.set_cons_succ, List.getElem_toArray, List.getElem_cons_zero, List.getElem_cons_succ]
                  refine wpAnyH_take (i := 3) (v := undef) rfl (by kernel_rfl) (by kernel_rfl) (by kernel_rfl) (fun _ _ _ h => h) (Or.inr ⟨by rfl, rfl⟩) hS ?_
                  try simp only [Act.put, List.setIfInBounds_toArray, List.set_cons_zero, List.set_cons_succ, List.getElem_toArray, List.getElem_cons_zero, List.getElem_cons_succ]
                  refine wpAnyH_take (i := 4) (v := undef) rfl (by kernel_rfl) (by kernel_rfl) (by kernel_rfl) (fun _ _ _ h => h) (Or.inr ⟨by rfl, rfl⟩) hS ?_
                  try simp only [Act.put, List.setIfInBounds_toArray, List.set_cons_zero, List.set_cons_succ, List.getElem_toArray, List.getElem_cons_zero, List.getElem_cons_succ]
                  refine wpAnyH_take (i := 5) (v := undef) rfl (by kernel_rfl) (by kernel_rfl) (by kernel_rfl) (fun _ _ _ h => h) (Or.inr ⟨by rfl, rfl⟩) hS ?_
                  try simp only [Act.put, List.setIfInBounds_toArray, List.set_cons_zero, List.set_cons_succ, List.getElem_toArray, List.getElem_cons_zero, List.getElem_cons_succ]
                  refine wpAnyH_take (i := 6) (v := undef) rfl (by kernel_rfl) (by kernel_rfl) (by kernel_rfl) (fun _ _ _ h => h) (Or.inr ⟨by rfl, rfl⟩) hS ?_
                  try simp only [Act.put, List.setIfInBounds_toArray, List.set_cons_zero, List.set_cons_succ, List.getElem_toArray, List.getElem_cons_zero, List.getElem_cons_succ]
                  refine wpAnyH_take (i := 7) (v := undef) rfl (by kernel_rfl) (by kernel_rfl) (by kernel_rfl) (fun _ _ _ h => h) (Or.inr ⟨by rfl, rfl⟩) hS ?_
                  try simp only [Act.put, List.setIfInBounds_toArray, List.set_cons_zero, List.set_cons_succ, List.getElem_toArray, List.getElem_cons_zero, List.getElem_cons_succ]
                  refine wpAnyH_take (i := 8) (v := undef) rfl (by kernel_rfl) (by kernel_rfl) (by kernel_rfl) (fun _ _ _ h => h) (Or.inr ⟨by rfl, rfl⟩) hS ?_
                  try simp only [Act.put, List.setIfInBounds_toArray, List.set_cons_zero, List.set_cons_succ, List.getElem_toArray, List.getElem_cons_zero, List.getElem_cons_succ]
                  refine wpAnyH_take (i := 9) (v := undef) rfl (by kernel_rfl) (by kernel_rfl) (by kernel_rfl) (fun _ _ _ h => h) (Or.inr ⟨by rfl, rfl⟩) hS ?_
                  try simp only [Act.put, List.setIfInBounds_toArray, List.set_cons_zero, List.set_cons_succ, List.getElem_toArray, List.getElem_cons_zero, List.getElem_cons_succ]
                  refine wpAnyH_take (i := 10) (v := undef) rfl (by kernel_rfl) (by kernel_rfl) (by kernel_rfl) (fun _ _ _ h => h) (Or.inr ⟨by rfl, rfl⟩) hS ?_
                  try simp only [Act.put, List.setIfInBounds_toArray, List.set_cons_zero, List.set_cons_succ, List.getElem_toArray, List.getElem_cons_zero, List.getElem_cons_succ]
                  refine wpAnyH_take (i := 11) (v := undef) rfl (by kernel_rfl) (by kernel_rfl) (by kernel_rfl) (fun _ _ _ h => h) (Or.inr ⟨by rfl, rfl⟩) hS ?_
                  try simp only [Act.put, List.setIfInBounds_toArray, List.set_cons_zero, List.set_cons_succ, List.getElem_toArray, List.getElem_cons_zero, List.getElem_cons_succ]
                  refine wpAnyH_take (i := 12) (v := undef) rfl (by kernel_rfl) (by kernel_rfl) (by kernel_rfl) (fun _ _ _ h => h) (Or.inr ⟨by rfl, rfl⟩) hS ?_
                  try simp only [Act.put, List.setIfInBounds_toArray, List.set_cons_zero, List.set_cons_succ, List.getElem_toArray, List.getElem_cons_zero, List.getElem_cons_succ]
                  refine wpAnyH_take (i := 13) (v := .bool false) rfl (by kernel_rfl) (by kernel_rfl) (by kernel_rfl) (fun _ _ _ h => h) (Or.inl ⟨by rfl, fun W hW => ?_⟩) hS ?_
                  · go_simp
                  try simp only [Act.put, List.setIfInBounds_toArray, List.set_cons_zero, List.set_cons_succ, List.getElem_toArray, List.getElem_cons_zero, List.getElem_cons_succ]
                  refine wpAnyH_done (by kernel_rfl) ?_ _
                  have hRd : TRow wr.drew B (.slice (some ⟨g', 0, none⟩) (l.length + 1) cap') (A ++ (ei, ex) :: S) := hRp.moved (Moved.refl wr _).drew
                  have hmd : Moved W0 wr.drew (fun _ => False) := hmp.drew
                  clear hRp hmp hS
                  go_simp
                  go_wp2_with fail
                  refine ⟨⟨j + 1, A ++ (ei, ex) :: S, by omega, by simp, ?_, hmd⟩, by simp [intOf]; omega⟩
                  rw [hsucc.out]
                  rw [HA.out.1] at hpm hsr hdup
                  exact BandAt.ins hRd hpm hsr hid hdup hSl (fun A' x h => by rw [hA0] at h; simp at h)
                · obtain ⟨q, rfl⟩ : ∃ q, p = q + 1 := ⟨p - 1, by omega⟩
                  obtain ⟨A', x, hAx⟩ : ∃ A' x, A = A' ++ [x] := by
                    rcases List.eq_nil_or_concat A with h | ⟨A', x, h⟩
                    · have := HA.out.2; rw [h] at this; simp at this
                    · exact ⟨A', x, by rw [h, List.concat_eq_append]⟩
                  subst hAx
                  have hqA : A'.length = q := by have := HA.out.2; simp at this; omega
                  have hxm : x ∈ l := by rw [HA.out.1]; simp
                  have hxsh := HLs x hxm
                  obtain ⟨xi, xx⟩ := x
                  have hlen : (A' ++ [(xi, xx)] ++ (ei, ex) :: S).length = l.length + 1 := by rw [HA.out.1]; simp; omega
                  have hrow := hRp.row
                  rw [hlen] at hrow
                  have hTT := own4_terms hlen.symm hrow
                  obtain ⟨k0, k1, k2, k3⟩ := hTT q (by rw [hlen]; omega)
                  obtain ⟨m0, m1, m2, m3⟩ := hTT (q + 1) (by rw [hlen]; omega)
                  have hx1 : (A' ++ [(xi, xx)] ++ (ei, ex) :: S)[q]'(by rw [hlen]; omega) = (xi, xx) := by
                    rw [List.getElem_append_left (by simp; omega), List.getElem_append_right (by omega)]
                    simp
                  have hx2 : (A' ++ [(xi, xx)] ++ (ei, ex) :: S)[q + 1]'(by rw [hlen]; omega) = (ei, ex) := by
                    rw [List.getElem_append_right (by simp; omega)]
                    simp [hqA]
                  rw [hx1] at k1 k2
                  rw [hx2] at m1 m2
                  clear hx1 hx2 hTT hrow
                  have HQ : Hid (A'.length = q ∧ (A' ++ [(xi, xx)] ++ (ei, ex) :: S).length = l.length + 1) := ⟨hqA, hlen⟩
                  clear hqA hlen hxm hp0
                  have i1 : ¬ ((l.length : Int) + 1 ≤ (q : Int) + 1) := by omega
                  have i2 : ¬ ((l.length : Int) + 1 ≤ (q : Int)) := by omega
                  have i3 : IntKind.i64.wrap (q : Int) = (q : Int) := by rw [IntKind.wrap_i64]; omega
                  have i7 : ¬ (l.length ≤ q) := by omega
                  have i8 : (0 : Int) ≤ (q : Int) + 1 := by omega
                  have i9 : ¬ (l.length + 1 ≤ q) := by omega
                  have i4 : decide ((0 : Int) < (q : Int) + 1) = true := by rw [decide_eq_true_iff]; omega
                  have i5 : (0 : Int) < (q : Int) + 1 := by omega
                  have i6 : IntKind.i64.wrap ((q : Int) + 1) = (q : Int) + 1 := by rw [IntKind.wrap_i64]; omega
                  go_upto_region 16 with fail
                  refine wp_region_s (S := fun w' => w'.cell? ⟨g', q * 4, none⟩ = some (.int .i64 0) ∧ w'.cell? ⟨g', q * 4 + 1, none⟩ = some (.string xi) ∧ w'.cell? ⟨g', q * 4 + 2, none⟩ = some (.string xx) ∧ w'.cell? ⟨g', q * 4 + 3, none⟩ = some (.slice none 0 0) ∧ w'.cell? ⟨g', (q + 1) * 4, none⟩ = some (.int .i64 0) ∧ w'.cell? ⟨g', (q + 1) * 4 + 1, none⟩ = some (.string ei) ∧ w'.cell? ⟨g', (q + 1) * 4 + 2, none⟩ = some (.string ex) ∧ w'.cell? ⟨g', (q + 1) * 4 + 3, none⟩ = some (.slice none 0 0)) (by kernel_rfl) ⟨k0, k1, k2, k3, m0, m1, m2, m3⟩ (fun hS => ?_)
                  refine wpAnyH_take (i := 0) (v := .int .i64 ((q : Int) + 1)) rfl (by kernel_rfl) (by kernel_rfl) (by kernel_rfl) (fun _ _ _ h => h) (Or.inl ⟨by rfl, fun W hW => ?_⟩) hS ?_
                  · obtain ⟨s0, s1, s2, s3, s4, s5, s6, s7⟩ := hW
                    go_simp
                  try simp only [Act.put, List.setIfInBounds_toArray, List.set_cons_zero, List.set_cons_succ, List.getElem_toArray, List.getElem_cons_zero, List.getElem_cons_succ]
                  refine wpAnyH_take (i := 1) (v := .bool true) rfl (by kernel_rfl) (by kernel_rfl) (by kernel_rfl) (fun _ _ _ h => h) (Or.inl ⟨by rfl, fun W hW => ?_⟩) hS ?_
                  · obtain ⟨s0, s1, s2, s3, s4, s5, s6, s7⟩ := hW
                    go_simp
                  try simp only [Act.put, List.setIfInBounds_toArray, List.set_cons_zero, List.set_cons_succ, List.getElem_toArray, List.getElem_cons_zero, List.getElem_cons_succ]
                  refine wpAnyH_take (i := 2) (v := .bool true) rfl (by kernel_rfl) (by kernel_rfl) (by kernel_rfl) (fun _ _ _ h => h) (Or.inl ⟨by rfl, fun W hW => ?_⟩) hS ?_
                  · obtain ⟨s0, s1, s2, s3, s4, s5, s6, s7⟩ := hW
                    go_simp
                  try simp only [Act.put, List.setIfInBounds_toArray, List.set_cons_zero, List.set_cons_succ, List.getElem_toArray, List.getElem_cons_zero, List.getElem_cons_succ]
                  refine wpAnyH_take (i := 3) (v := .slice (some ⟨g', 0, none⟩) (l.length + 1) cap') rfl (by kernel_rfl) (by kernel_rfl) (by kernel_rfl) (fun _ _ _ h => h) (Or.inl ⟨by rfl, fun W hW => ?_⟩) hS ?_
                  · obtain ⟨s0, s1, s2, s3, s4, s5, s6, s7⟩ := hW
                    go_simp
                  try simp only [Act.put, List.setIfInBounds_toArray, List.set_cons_zero, List.set_cons_succ, List.getElem_toArray, List.getElem_cons_zero, List.getElem_cons_succ]
                  refine wpAnyH_take (i := 4) (v := .int .i64 ((q : Int) + 1)) rfl (by kernel_rfl) (by kernel_rfl) (by kernel_rfl) (fun _ _ _ h => h) (Or.inl ⟨by rfl, fun W hW => ?_⟩) hS ?_
                  · obtain ⟨s0, s1, s2, s3, s4, s5, s6, s7⟩ := hW
                    go_simp
                  try simp only [Act.put, List.setIfInBounds_toArray, List.set_cons_zero, List.set_cons_succ, List.getElem_toArray, List.getElem_cons_zero, List.getElem_cons_succ]
                  refine wpAnyH_take (i := 5) (v := .pointer (some ⟨g', (q + 1) * 4, none⟩)) rfl (by kernel_rfl) (by kernel_rfl) (by kernel_rfl) (fun _ _ _ h => h) (Or.inl ⟨by rfl, fun W hW => ?_⟩) hS ?_
                  · obtain ⟨s0, s1, s2, s3, s4, s5, s6, s7⟩ := hW
                    go_simp
                  try simp only [Act.put, List.setIfInBounds_toArray, List.set_cons_zero, List.set_cons_succ, List.getElem_toArray, List.getElem_cons_zero, List.getElem_cons_succ]
                  refine wpAnyH_take (i := 6) (v := .agg #[.int .i64 0, .string ei, .string ex, .slice none 0 0]) rfl (by kernel_rfl) (by kernel_rfl) (by kernel_rfl) (fun _ _ _ h => h) (Or.inl ⟨by rfl, fun W hW => ?_⟩) hS ?_
                  · obtain ⟨s0, s1, s2, s3, s4, s5, s6, s7⟩ := hW
                    go_simp
                  try simp only [Act.put, List.setIfInBounds_toArray, List.set_cons_zero, List.set_cons_succ, List.getElem_toArray, List.getElem_cons_zero, List.getElem_cons_succ]
                  refine wpAnyH_take (i := 7) (v := .slice (some ⟨g', 0, none⟩) (l.length + 1) cap') rfl (by kernel_rfl) (by kernel_rfl) (by kernel_rfl) (fun _ _ _ h => h) (Or.inl ⟨by rfl, fun W hW => ?_⟩) hS ?_
                  · obtain ⟨s0, s1, s2, s3, s4, s5, s6, s7⟩ := hW
                    go_simp
                  try simp only [Act.put, List.setIfInBounds_toArray, List.set_cons_zero, List.set_cons_succ, List.getElem_toArray, List.getElem_cons_zero, List.getElem_cons_succ]
                  refine wpAnyH_take (i := 8) (v := .int .i64 ((q : Int) + 1)) rfl (by kernel_rfl) (by kernel_rfl) (by kernel_rfl) (fun _ _ _ h => h) (Or.inl ⟨by rfl, fun W hW => ?_⟩) hS ?_
                  · obtain ⟨s0, s1, s2, s3, s4, s5, s6, s7⟩ := hW
                    go_simp
                  try simp only [Act.put, List.setIfInBounds_toArray, List.set_cons_zero, List.set_cons_succ, List.getElem_toArray, List.getElem_cons_zero, List.getElem_cons_succ]
                  refine wpAnyH_take (i := 9) (v := .int .i64 (q : Int)) rfl (by kernel_rfl) (by kernel_rfl) (by kernel_rfl) (fun _ _ _ h => h) (Or.inl ⟨by rfl, fun W hW => ?_⟩) hS ?_
                  · obtain ⟨s0, s1, s2, s3, s4, s5, s6, s7⟩ := hW
                    go_simp
                  try simp only [Act.put, List.setIfInBounds_toArray, List.set_cons_zero, List.set_cons_succ, List.getElem_toArray, List.getElem_cons_zero, List.getElem_cons_succ]
                  refine wpAnyH_take (i := 10) (v := .pointer (some ⟨g', q * 4, none⟩)) rfl (by kernel_rfl) (by kernel_rfl) (by kernel_rfl) (fun _ _ _ h => h) (Or.inl ⟨by rfl, fun W hW => ?_⟩) hS ?_
                  · obtain ⟨s0, s1, s2, s3, s4, s5, s6, s7⟩ := hW
                    go_simp
                  try simp only [Act.put, List.setIfInBounds_toArray, List.set_cons_zero, List.set_cons_succ, List.getElem_toArray, List.getElem_cons_zero, List.getElem_cons_succ]
                  refine wpAnyH_take (i := 11) (v := .agg #[.int .i64 0, .string xi, .string xx, .slice none 0 0]) rfl (by kernel_rfl) (by kernel_rfl) (by kernel_rfl) (fun _ _ _ h => h) (Or.inl ⟨by rfl, fun W hW => ?_⟩) hS ?_
                  · obtain ⟨s0, s1, s2, s3, s4, s5, s6, s7⟩ := hW
                    go_simp
                  try simp only [Act.put, List.setIfInBounds_toArray, List.set_cons_zero, List.set_cons_succ, List.getElem_toArray, List.getElem_cons_zero, List.getElem_cons_succ]
                  refine wpAnyH_ready (rs := [12]) (by kernel_rfl) (by simp) (AllReadyH.cons rfl (fun K hK => ?_) AllReadyH.nil)
                  rw [if_pos (by rfl)]
                  go_simp
                  refine (less_any _ _ _ _ ei ex xi xx _ hesh.1 hesh.2 hxsh.1 hxsh.2).mono ?_
                  rintro r W3 ⟨rfl, hW3⟩
                  have hm3 : Moved wr W3 (fun _ => False) := (Moved.refl wr (fun _ => False)).drew.trans (Moved.of_below_size hW3) (fun _ h => h.elim)
                  clear hW3
                  refine hK.out _ _ ⟨hm3.cell k0 (fun h => h), hm3.cell k1 (fun h => h), hm3.cell k2 (fun h => h), hm3.cell k3 (fun h => h), hm3.cell m0 (fun h => h), hm3.cell m1 (fun h => h), hm3.cell m2 (fun h => h), hm3.cell m3 (fun h => h)⟩ (fun hS => ?_)
                  clear hK K
                  try simp only [Act.put, List.setIfInBounds_toArray, List.set_cons_zero, List.set_cons_succ, List.getElem_toArray, List.getElem_cons_zero, List.getElem_cons_succ]
                  rw [bless_eq (ei, ex) (xi, xx)]
                  cases hbb : ltE (ei, ex) (xi, xx) with
                  | false =>
                    refine wpAnyH_take (i := 13) (v := .bool false) rfl (by kernel_rfl) (by kernel_rfl) (by kernel_rfl) (fun _ _ _ h => h) (Or.inl ⟨by rfl, fun W hW => ?_⟩) hS ?_
                    · obtain ⟨s0, s1, s2, s3, s4, s5, s6, s7⟩ := hW
                      go_simp
                    try simp only [Act.put, List.setIfInBounds_toArray, List.set_cons_zero, List.set_cons_succ, List.getElem_toArray, List.getElem_cons_zero, List.getElem_cons_succ]
                    refine wpAnyH_done (by kernel_rfl) ?_ _
                    have hRd := hRp.moved hm3
                    have hmd : Moved W0 W3 (fun _ => False) := hmp.trans hm3 (fun _ h => h.elim)
                    clear hRp hmp hS hm3 k0 k1 k2 k3 m0 m1 m2 m3
                    go_simp
                    go_wp2_with fail
                    refine ⟨⟨j + 1, A' ++ [(xi, xx)] ++ (ei, ex) :: S, by omega, by simp, ?_, hmd⟩, by simp [intOf]; omega⟩
                    rw [hsucc.out]
                    rw [HA.out.1] at hpm hsr hdup
                    refine BandAt.ins hRd hpm hsr hid hdup hSl (fun A2 x2 h => ?_)
                    obtain ⟨_, h2⟩ := List.append_inj' h rfl
                    cases h2
                    exact hbb
                  | true =>
                    refine wpAnyH_take (i := 13) (v := .bool true) rfl (by kernel_rfl) (by kernel_rfl) (by kernel_rfl) (fun _ _ _ h => h) (Or.inl ⟨by rfl, fun W hW => ?_⟩) hS ?_
                    · obtain ⟨s0, s1, s2, s3, s4, s5, s6, s7⟩ := hW
                      go_simp
                    try simp only [Act.put, List.setIfInBounds_toArray, List.set_cons_zero, List.set_cons_succ, List.getElem_toArray, List.getElem_cons_zero, List.getElem_cons_succ]
                    refine wpAnyH_done (by kernel_rfl) ?_ _
                    have hRd := hRp.moved hm3
                    have hmd : Moved W0 W3 (fun _ => False) := hmp.trans hm3 (fun _ h => h.elim)
                    obtain ⟨s0, s1, s2, s3, s4, s5, s6, s7⟩ := hS
                    clear hRp hmp hm3 k0 k1 k2 k3 m0 m1 m2 m3
                    obtain ⟨W4, hW4⟩ : ∃ W4, W4 = W3.alloc (.cells #[.int .i64 0, .string ei, .string ex, .slice none 0 0] 31) := ⟨_, rfl⟩
                    have hm4 : Moved W3 W4 (fun _ => False) := by rw [hW4]; exact Moved.alloc W3 _ _
                    have hb4 : W4.heap[W3.heap.size]? = some (.cells #[.int .i64 0, .string ei, .string ex, .slice none 0 0] 31) := by rw [hW4]; exact blk_new _ _
                    go_simp
                    go_upto_region 19 with fail
                    rw [← hW4]
                    clear hW4
                    have hrow3 := hRd.row
                    rw [HQ.out.2] at hrow3
                    obtain ⟨cur, hg3, hBg, _, _, _, _⟩ := own_blk hrow3
                    have hgne : g' ≠ W3.heap.size := by have := blk_lt hg3; omega
                    have t0 := hm4.cell s0 (fun h => h)
                    have t1 := hm4.cell s1 (fun h => h)
                    have t2 := hm4.cell s2 (fun h => h)
                    have t3 := hm4.cell s3 (fun h => h)
                    have t4 := hm4.cell s4 (fun h => h)
                    have t5' := hm4.cell s5 (fun h => h)
                    have t6 := hm4.cell s6 (fun h => h)
                    have t7 := hm4.cell s7 (fun h => h)
                    have hg4 := hm4.blk hg3 (fun h => h)
                    have gf4 : ∀ i, W4.frozen? ⟨g', i, none⟩ = false := fun i => frozen_of_row _ _ _ _ _ hg4
                    have hR4 := hRd.moved hm4
                    have hmd4 : Moved W0 W4 (fun _ => False) := hmd.trans hm4 (fun _ h => h.elim)
                    obtain ⟨W5, hW5⟩ : ∃ W5, W5 = putE W4 g' (q + 1) (xi, xx) := ⟨_, rfl⟩
                    have hm5 : Moved W4 W5 (fun b => b = g') := by rw [hW5]; exact putE_moved _ _ _ _
                    have hR5 := hR4.put HQ.out.2.symm (q + 1) (by rw [HQ.out.2]; omega) (xi, xx)
                    rw [← hW5] at hR5
                    have hset : (A' ++ [(xi, xx)] ++ (ei, ex) :: S).set (q + 1) (xi, xx) = A' ++ [(xi, xx)] ++ (xi, xx) :: S := by
                      rw [List.set_append_right _ _ (by simp [HQ.out.1])]
                      simp [HQ.out.1]
                    rw [hset] at hR5
                    have hlen5 : (A' ++ [(xi, xx)] ++ (xi, xx) :: S).length = l.length + 1 := by rw [← HQ.out.2]; simp
                    have hr5 := hR5.row
                    rw [hlen5] at hr5
                    obtain ⟨cur5, hg5, _⟩ := own_blk hr5
                    obtain ⟨y0, y1, y2, y3⟩ := own4_terms hlen5.symm hr5 q (by rw [hlen5]; omega)
                    have hx3 : (A' ++ [(xi, xx)] ++ (xi, xx) :: S)[q]'(by rw [hlen5]; omega) = (xi, xx) := by
                      have hqA := HQ.out.1
                      rw [List.getElem_append_left (by simp; omega), List.getElem_append_right (by omega)]
                      simp
                    rw [hx3] at y1 y2
                    clear hx3
                    have gf5 : ∀ i, W5.frozen? ⟨g', i, none⟩ = false := fun i => frozen_of_row _ _ _ _ _ hg5
                    have hb5' := hm5.blk hb4 (fun h => hgne h.symm)
                    unfold putE at hW5
                    have HR5 : Hid (TRow W5 B (.slice (some ⟨g', 0, none⟩) (l.length + 1) cap') (A' ++ [(xi, xx)] ++ (xi, xx) :: S) ∧ (A' ++ [(xi, xx)] ++ (xi, xx) :: S).length = l.length + 1) := ⟨hR5, hlen5⟩
                    clear hset hlen5 hr5 hR5 hRd hmd hm4 hrow3 hg3 hg4 hR4 s0 s1 s2 s3 s4 s5 s6 s7 hb4
                    generalize W3.heap.size = t10 at *
                    go_upto_region 20 with fail
                    rw [← hW5]
                    clear hW5 t0 t1 t2 t3 t4 t5' t6 t7 gf4
                    have v0 : W5.cell? ⟨t10, 0, none⟩ = some (.int .i64 0) := by rw [cell_of_row _ _ _ _ _ _ hb5']; rfl
                    have v1 : W5.cell? ⟨t10, 1, none⟩ = some (.string ei) := by rw [cell_of_row _ _ _ _ _ _ hb5']; rfl
                    have v2 : W5.cell? ⟨t10, 2, none⟩ = some (.string ex) := by rw [cell_of_row _ _ _ _ _ _ hb5']; rfl
                    have v3 : W5.cell? ⟨t10, 3, none⟩ = some (.slice none 0 0) := by rw [cell_of_row _ _ _ _ _ _ hb5']; rfl
                    have hg6 := hg5
                    have hmd5 : Moved W0 W5 (fun _ => False) := hmd4.trans hm5 (fun b hb => .inr (by rw [hb, ← HB.out]; exact hBg))
                    have hR6 := HR5.out.1.put HR5.out.2.symm q (by rw [HR5.out.2]; omega) (ei, ex)
                    have hset2 : (A' ++ [(xi, xx)] ++ (xi, xx) :: S).set q (ei, ex) = A' ++ (ei, ex) :: (xi, xx) :: S := by
                      rw [List.append_assoc, List.set_append_right _ _ (by simp [HQ.out.1])]
                      simp [HQ.out.1]
                    rw [hset2] at hR6
                    have hm6 : Moved W0 (putE W5 g' q (ei, ex)) (fun _ => False) := hmd5.trans (putE_moved _ _ _ _) (fun b hb => .inr (by rw [hb, ← HB.out]; exact hBg))
                    clear hset2 hg6 hm5 hmd4 hmd5
                    go_wp2_with fail
                    refine ⟨⟨q, A', (xi, xx) :: S, by rw [HA.out.1]; simp, HQ.out.1.symm, by simp, hR6, ?_, hm6⟩, by simp [intOf]⟩
                    intro z hz
                    rcases List.mem_cons.1 hz with rfl | hz
                    · exact hbb
                    · exact hSl z hz
    · have hjn : j = n := by omega
      subst hjn
      have hAe := hA.perm
      rw [HN.out, List.take_length] at hAe
      have hRw : wr.heap[R]? = some (.cells #[.int .i64 0, .string ⟨#[]⟩, .string ⟨#[]⟩, .slice none 0 0] 31) := hmv.blk hRb (fun h => h)
      have z0 : wr.cell? ⟨R, 0, none⟩ = some (.int .i64 0) := by rw [cell_of_row _ _ _ _ _ _ hRw]; rfl
      have z1 : wr.cell? ⟨R, 1, none⟩ = some (.string ⟨#[]⟩) := by rw [cell_of_row _ _ _ _ _ _ hRw]; rfl
      have z2 : wr.cell? ⟨R, 2, none⟩ = some (.string ⟨#[]⟩) := by rw [cell_of_row _ _ _ _ _ _ hRw]; rfl
      have z3 : wr.cell? ⟨R, 3, none⟩ = some (.slice none 0 0) := by rw [cell_of_row _ _ _ _ _ _ hRw]; rfl
      have zf : ∀ j, wr.frozen? ⟨R, j, none⟩ = false := fun j => frozen_of_row _ _ j _ 31 hRw
      have h4 : ∀ a b c d : Value, Moved wr ((((wr.setCell ⟨R, 0, none⟩ a).setCell ⟨R, 1, none⟩ b).setCell ⟨R, 2, none⟩ c).setCell ⟨R, 3, none⟩ d) (fun q => q = R) := fun a b c d => by
        have h := fun (X : World) (j : Nat) (v : Value) => Moved.setCell X ⟨R, j, none⟩ v
        exact (((h _ _ _).trans (M' := fun q => q = R) (h _ _ _) (fun _ h => .inl h)).trans (M' := fun q => q = R) (h _ _ _) (fun _ h => .inl h)).trans (M' := fun q => q = R) (h _ _ _) (fun _ h => .inl h)
      have hB4 : ∀ a b c d : Value, Moved w ((((wr.setCell ⟨R, 0, none⟩ a).setCell ⟨R, 1, none⟩ b).setCell ⟨R, 2, none⟩ c).setCell ⟨R, 3, none⟩ d) (fun _ => False) := fun a b c d => (hm0.trans hmv (fun _ h => h.elim)).trans (h4 a b c d) (fun q hq => .inr (by rw [hq, HR.out]; exact Nat.le_refl _))
      have hsr := hA.srt
      match l, hA, hAe, hsr, hll with
      | [], hA, hAe, hsr, hll =>
        have hnil := hA.row.nil rfl
        subst hnil
        have hD : es.foldl addL [] = [] := List.nil_perm.1 hAe
        have HD : Hid (es.foldl addL [] = []) := hD
        clear hD hA hAe hsr h4 hll
        go_wp2_with fail
        refine bodyPost_ret (res31 (p := 2) rfl _ _ R #[.int .i64 0, .string ⟨#[]⟩, .string ⟨#[]⟩, .slice none 0 0] rfl (ret4 hRw) rfl) rfl ?_
        first
          | exact ⟨_, _, _, _, .inl (noStr, noStr), rfl, ⟨rfl, rfl, rfl, rfl⟩, .inl ⟨HD.out, rfl⟩, hB4 _ _ _ _⟩
          | exact ⟨_, _, _, _, rfl, .inl (noStr, noStr), ⟨rfl, rfl, rfl, rfl⟩, .inl ⟨HD.out, rfl⟩, hB4 _ _ _ _⟩
      | [k], hA, hAe, hsr, hll =>
        obtain ⟨g, cap1, hu3⟩ := hA.row.form (by simp)
        subst hu3
        obtain ⟨r0, r1, r2, r3⟩ := own4_terms rfl hA.row.row 0 (by simp)
        simp only [List.getElem_cons_zero, Nat.zero_mul, Nat.zero_add, List.length_cons, List.length_nil] at r0 r1 r2 r3 ⊢
        have HD : Hid (es.foldl addL [] = [k]) := (List.singleton_perm.1 hAe).symm
        obtain ⟨ki, kx⟩ := k
        clear hA hAe hsr h4 hll
        go_wp2_with fail
        refine bodyPost_ret (res31 (p := 2) rfl _ _ R #[.int .i64 0, .string ki, .string kx, .slice none 0 0] rfl (ret4 hRw) rfl) rfl ?_
        first
          | exact ⟨_, _, _, _, .inl (ki, kx), rfl, ⟨rfl, rfl, rfl, rfl⟩, .inr (.inl ⟨_, HD.out, rfl⟩), hB4 _ _ _ _⟩
          | exact ⟨_, _, _, _, rfl, .inl (ki, kx), ⟨rfl, rfl, rfl, rfl⟩, .inr (.inl ⟨_, HD.out, rfl⟩), hB4 _ _ _ _⟩
      | k0 :: k1 :: kr, hA, hAe, hsr, hll =>
        obtain ⟨l, hl'⟩ : ∃ l, l = k0 :: k1 :: kr := ⟨_, rfl⟩
        rw [← hl'] at hA hAe hsr hll
        have h2 : 2 ≤ l.length := by rw [hl']; simp
        clear hl'
        obtain ⟨g, cap1, hu3⟩ := hA.row.form (by omega)
        subst hu3
        have hrow := hA.row.row
        obtain ⟨cur, hg, hBg, _⟩ := own_blk hrow
        have hTg := own4_terms rfl hrow
        have hgR : g ≠ R := by rw [HB.out] at hBg; have := blk_lt hRb; omega
        have q0 : ¬ ((l.length : Int) = 0) := by omega
        have q1 : ¬ ((l.length : Int) = 1) := by omega
        have q2 : ((l.length : Int) == 0) = false := by simpa using q0
        have q3 : ((l.length : Int) == 1) = false := by simpa using q1
        clear hA
        go_wp2_with fail
        refine bodyPost_ret (res31 (p := 2) rfl _ _ R #[.int .i64 1, .string ⟨#[]⟩, .string ⟨#[]⟩, .slice (some ⟨g, 0, none⟩) l.length cap1] rfl (ret4 hRw) rfl) rfl ?_
        have hxx : XAt ((((wr.setCell ⟨R, 0, none⟩ (.int .i64 1)).setCell ⟨R, 1, none⟩ (.string ⟨#[]⟩)).setCell ⟨R, 2, none⟩ (.string ⟨#[]⟩)).setCell ⟨R, 3, none⟩ (.slice (some ⟨g, 0, none⟩) l.length cap1)) (.int .i64 1) (.string ⟨#[]⟩) (.string ⟨#[]⟩) (.slice (some ⟨g, 0, none⟩) l.length cap1) (.inr l) :=
          ⟨rfl, rfl, rfl, h2, g, cap1, cur, rfl, hTg.keep fun k v hc => (h4 _ _ _ _).cell hc (fun e => hgR e), (h4 _ _ _ _).blk hg (fun e => hgR e)⟩
        have hjo : JoinOut (es.foldl addL []) (.inr l) := .inr (.inr ⟨by rw [← hAe.length_eq]; exact h2, l, rfl, hAe, hsr⟩)
        first
          | exact ⟨_, _, _, _, _, rfl, hxx, hjo, hB4 _ _ _ _⟩
          | exact ⟨_, _, _, _, rfl, _, hxx, hjo, hB4 _ _ _ _⟩
end Go.Proofs.YbulkexpecFmt
