/- newSearch (function 5): its great region draws its order: walked by the invariant law. -/
import Derived.Test.YbulkexoxcSearchOps
namespace Go.Proofs.Ybulkexoxc
open Go.RowKit Go.PK Go.RegInv

set_option maxHeartbeats 4000000 in
set_option maxRecDepth 100000 in
theorem search_any (mb eb n : Nat) (c : Nat → Nat) (sa : Nat → Option Addr) (w : World) (h1 : n ≤ 65536) (hmb : mb < w.heap.size) (heb : eb < w.heap.size)
    (hm0 : w.cell? ⟨mb, 0, none⟩ = some (.slice (some ⟨eb, 0, none⟩) n n)) (hm3 : w.cell? ⟨mb, 3, none⟩ = some (.slice none 0 0))
    (he0 : ∀ e, e < n → w.cell? ⟨eb, e * 3, none⟩ = some (.string ByteArray.empty)) (he1 : ∀ e, e < n → w.cell? ⟨eb, e * 3 + 1, none⟩ = some (.slice (sa e) (c e) (c e)))
    (he2 : ∀ e, e < n → w.cell? ⟨eb, e * 3 + 2, none⟩ = some (.slice none 0 0)) (hc : ∀ e, c e ≤ 255) :
    Calls Yba.prog 5 #[.pointer (some ⟨mb, 0, none⟩)] w fun e w' => ∃ (v L0 L2 : Value) (fb g cap : Nat) (arr : Array Value), e = .returned v ∧ L0 = .slice (some ⟨fb, 0, none⟩) n n ∧ L2 = .slice (some ⟨g, 0, none⟩) ((Pl.st c n).words + 1) cap ∧
      SrchP w.heap.size mb n (Pl.st c n).words L0 L2 v w' ∧ w.heap.size ≤ fb ∧ w'.heap[fb]? = some (.cells arr 55) ∧ FieldsAt c n n arr ∧
      w'.ownsRow w.heap.size 3 1 L2 ((Pl.st c n).words + 1) (((Pl.st c n).starts ++ [n]).map fun x => Value.int .i64 (x : Nat)) ∧ Below w.heap.size w w' := by
  have Hlay := layout_any mb eb n c sa w h1 hmb heb hm0 he0 he1 he2 hc
  have hinv := Pl.st_inv c hc n
  generalize Pl.st c n = S at *
  obtain ⟨wd, us, ss⟩ := S
  simp only at Hlay hinv ⊢
  clear he0 he1 he2
  go_enter Yba.func5, Yba.ntmps5
  go_wp2_with (go_at_call 9; refine Hlay.mono ?_)
  rintro e w1 ⟨fb, g, cap, arr, rfl, hfb, harr, hfa, hown, hbel⟩
  go_wp2
  generalize hL0 : Value.slice (some ⟨fb, 0, none⟩) n n = L0
  generalize hL2 : Value.slice (some ⟨g, 0, none⟩) (wd + 1) cap = L2
  generalize hWW : w1.alloc (Obj.cells #[L0, .int .i64 (wd : Int), L2] 39) = W0
  have hW0 : W0.heap[w1.heap.size]? = some (.cells #[L0, .int .i64 (wd : Int), L2] 39) := by rw [← hWW]; exact blk_new _ _
  refine wp_region_inv' (by kernel_rfl) (by kernel_rfl) (by kernel_rfl) (Good5 w.heap.size mb eb w1.heap.size n wd L0 L2) (Below W0.heap.size W0) (fun w w' => Below w.heap.size w w') (Good5.stable _ _ _ _ _ _ _ _) (Below.refl _ _).drew ?step ?fin
  case fin =>
    intro a w2 hdf hsz hold hgood hJ2
    have hp : SrchP w.heap.size mb n wd L0 L2 (a.eval (.tmp 4)) w2 := hgood 46 4 rfl
    clear hold hgood
    simp only at hdf
    obtain ⟨tmps, defers⟩ := a
    subst hdf
    have hsz' : tmps.size = 54 := hsz
    have h4 : 4 < tmps.size := by omega
    clear hsz
    have hsz := hsz'
    clear hsz'
    have hp' : SrchP w.heap.size mb n wd L0 L2 (tmps[4]'h4) w2 := by
      have e : Act.eval ⟨tmps, []⟩ (.tmp 4) = (tmps[4]'h4) := by simp [Act.eval, hsz]
      rwa [e] at hp
    clear hp
    subst hWW
    have hb0 : Below w.heap.size w (w1.alloc (Obj.cells #[L0, .int .i64 (wd : Int), L2] 39)) := hbel.alloc hbel.size _
    have A1 := blk_below (blk_alloc harr (Obj.cells #[L0, .int .i64 (wd : Int), L2] 39)) hJ2 (blk_lt (blk_alloc harr _))
    have A2 : w2.ownsRow w.heap.size 3 1 L2 (wd + 1) ((ss ++ [n]).map fun x => Value.int .i64 (x : Nat)) := by
      rw [← hL2]
      exact own_keep (hown.alloc (Obj.cells #[L0, .int .i64 (wd : Int), L2] 39)) fun o ho => blk_below ho hJ2 (blk_lt ho)
    have A3 := hb0.trans (hJ2.mono hb0.size)
    go_wp2
    refine bodyPost_ret (v := (tmps[4]'h4)) (by simp [results, Yba.results5, hsz]) rfl ⟨(tmps[4]'h4), L0, L2, fb, g, cap, arr, rfl, hL0.symm, hL2.symm, hp', hfb, A1, hfa, A2, A3⟩
  case step =>
    have chl0 : ∀ x, Below W0.heap.size W0 x → x.cell? ⟨w1.heap.size, 0, none⟩ = some L0 := fun x hx => by rw [hx.cell (p := ⟨w1.heap.size, 0, none⟩) (blk_lt hW0)]; exact (cells3 hW0).1
    have chl1 : ∀ x, Below W0.heap.size W0 x → x.cell? ⟨w1.heap.size, 1, none⟩ = some (.int .i64 (wd : Int)) := fun x hx => by rw [hx.cell (p := ⟨w1.heap.size, 1, none⟩) (blk_lt hW0)]; exact (cells3 hW0).2.1
    have chl2 : ∀ x, Below W0.heap.size W0 x → x.cell? ⟨w1.heap.size, 2, none⟩ = some L2 := fun x hx => by rw [hx.cell (p := ⟨w1.heap.size, 2, none⟩) (blk_lt hW0)]; exact (cells3 hW0).2.2.1
    have hb0 : Below w.heap.size w W0 := by rw [← hWW]; exact hbel.alloc hbel.size _
    have chm0 : ∀ x, Below W0.heap.size W0 x → x.cell? ⟨mb, 0, none⟩ = some (.slice (some ⟨eb, 0, none⟩) n n) := fun x hx => by
      rw [hx.cell (p := ⟨mb, 0, none⟩) (Nat.lt_of_lt_of_le hmb hb0.size), hb0.cell (p := ⟨mb, 0, none⟩) hmb]; exact hm0
    have chm3 : ∀ x, Below W0.heap.size W0 x → x.cell? ⟨mb, 3, none⟩ = some (.slice none 0 0) := fun x hx => by
      rw [hx.cell (p := ⟨mb, 3, none⟩) (Nat.lt_of_lt_of_le hmb hb0.size), hb0.cell (p := ⟨mb, 3, none⟩) hmb]; exact hm3
    generalize w1.heap.size = lb at *
    have hB : w.heap.size ≤ W0.heap.size := hb0.size
    clear hm0 hm3 hW0 hWW Hlay harr hfa hown hbel hb0 hL0 hL2
    intro i o ho a w hold hdep hJ
    match i, ho with
    | 0, ho =>
      obtain rfl := Option.some.inj ho
      exact s5_0 rfl hJ (hold 0 (by kernel_rfl))
    | 1, ho =>
      obtain rfl := Option.some.inj ho
      exact s5_1 rfl hJ (hold 3 (by kernel_rfl)) (chl0 w hJ) (chl1 w hJ) (chl2 w hJ)
    | 2, ho =>
      obtain rfl := Option.some.inj ho
      exact s5_2 rfl hJ 
    | 3, ho =>
      obtain rfl := Option.some.inj ho
      exact s5_3 rfl hJ (hold 3 (by kernel_rfl))
    | 4, ho =>
      obtain rfl := Option.some.inj ho
      exact s5_4 rfl hJ (hdep 3 10 (by kernel_rfl) rfl) (chl1 w hJ)
    | 5, ho =>
      obtain rfl := Option.some.inj ho
      exact s5_5 rfl hJ (hdep 4 11 (by kernel_rfl) rfl) hinv.1 (by omega)
    | 6, ho =>
      obtain rfl := Option.some.inj ho
      exact s5_6 rfl hJ (hold 3 (by kernel_rfl))
    | 7, ho =>
      obtain rfl := Option.some.inj ho
      exact s5_7 rfl hJ (hdep 6 13 (by kernel_rfl) rfl) (chl1 w hJ)
    | 8, ho =>
      obtain rfl := Option.some.inj ho
      exact s5_8 rfl hJ (hdep 7 14 (by kernel_rfl) rfl) hB h1 (by omega)
    | 9, ho =>
      obtain rfl := Option.some.inj ho
      exact s5_9 rfl hJ (hold 0 (by kernel_rfl))
    | 10, ho =>
      obtain rfl := Option.some.inj ho
      exact s5_10 rfl hJ (hdep 9 16 (by kernel_rfl) rfl)
    | 11, ho =>
      obtain rfl := Option.some.inj ho
      exact s5_11 rfl hJ (hdep 10 17 (by kernel_rfl) rfl)
    | 12, ho =>
      obtain rfl := Option.some.inj ho
      exact s5_12 rfl hJ (hdep 11 18 (by kernel_rfl) rfl) (chm0 w hJ)
    | 13, ho =>
      obtain rfl := Option.some.inj ho
      exact s5_13 rfl hJ (hdep 12 19 (by kernel_rfl) rfl)
    | 14, ho =>
      obtain rfl := Option.some.inj ho
      exact s5_14 rfl hJ (hdep 13 20 (by kernel_rfl) rfl) hB h1 (by omega)
    | 15, ho =>
      obtain rfl := Option.some.inj ho
      exact s5_15 rfl hJ hB h1 (by omega)
    | 16, ho =>
      obtain rfl := Option.some.inj ho
      exact s5_16 rfl hJ (hold 0 (by kernel_rfl))
    | 17, ho =>
      obtain rfl := Option.some.inj ho
      exact s5_17 rfl hJ (hdep 16 23 (by kernel_rfl) rfl)
    | 18, ho =>
      obtain rfl := Option.some.inj ho
      exact s5_18 rfl hJ (hdep 17 24 (by kernel_rfl) rfl)
    | 19, ho =>
      obtain rfl := Option.some.inj ho
      exact s5_19 rfl hJ (hdep 18 25 (by kernel_rfl) rfl) (chm3 w hJ)
    | 20, ho =>
      obtain rfl := Option.some.inj ho
      exact s5_20 rfl hJ (hold 0 (by kernel_rfl))
    | 21, ho =>
      obtain rfl := Option.some.inj ho
      exact s5_21 rfl hJ (hdep 20 27 (by kernel_rfl) rfl)
    | 22, ho =>
      obtain rfl := Option.some.inj ho
      exact s5_22 rfl hJ (hdep 21 28 (by kernel_rfl) rfl)
    | 23, ho =>
      obtain rfl := Option.some.inj ho
      exact s5_23 rfl hJ (hdep 22 29 (by kernel_rfl) rfl) (chm0 w hJ)
    | 24, ho =>
      obtain rfl := Option.some.inj ho
      exact s5_24 rfl hJ (hdep 23 30 (by kernel_rfl) rfl)
    | 25, ho =>
      obtain rfl := Option.some.inj ho
      exact s5_25 rfl hJ (hdep 19 26 (by kernel_rfl) rfl) (hdep 24 31 (by kernel_rfl) rfl) hB h1
    | 26, ho =>
      obtain rfl := Option.some.inj ho
      exact s5_26 rfl hJ (hold 0 (by kernel_rfl))
    | 27, ho =>
      obtain rfl := Option.some.inj ho
      exact s5_27 rfl hJ (hdep 26 33 (by kernel_rfl) rfl)
    | 28, ho =>
      obtain rfl := Option.some.inj ho
      exact s5_28 rfl hJ (hdep 27 34 (by kernel_rfl) rfl)
    | 29, ho =>
      obtain rfl := Option.some.inj ho
      exact s5_29 rfl hJ (hdep 28 35 (by kernel_rfl) rfl) (chm3 w hJ)
    | 30, ho =>
      obtain rfl := Option.some.inj ho
      exact s5_30 rfl hJ (hdep 29 36 (by kernel_rfl) rfl)
    | 31, ho =>
      obtain rfl := Option.some.inj ho
      exact s5_31 rfl hJ (hdep 30 37 (by kernel_rfl) rfl)
    | 32, ho =>
      obtain rfl := Option.some.inj ho
      exact s5_32 rfl hJ (hold 0 (by kernel_rfl))
    | 33, ho =>
      obtain rfl := Option.some.inj ho
      exact s5_33 rfl hJ (hdep 32 39 (by kernel_rfl) rfl)
    | 34, ho =>
      obtain rfl := Option.some.inj ho
      exact s5_34 rfl hJ (hdep 33 40 (by kernel_rfl) rfl)
    | 35, ho =>
      obtain rfl := Option.some.inj ho
      exact s5_35 rfl hJ (hdep 34 41 (by kernel_rfl) rfl) (chm3 w hJ)
    | 36, ho =>
      obtain rfl := Option.some.inj ho
      exact s5_36 rfl hJ (hdep 35 42 (by kernel_rfl) rfl)
    | 37, ho =>
      obtain rfl := Option.some.inj ho
      exact s5_37 rfl hJ (hdep 36 43 (by kernel_rfl) rfl)
    | 38, ho =>
      obtain rfl := Option.some.inj ho
      exact s5_38 rfl hJ (hold 0 (by kernel_rfl))
    | 39, ho =>
      obtain rfl := Option.some.inj ho
      exact s5_39 rfl hJ (hdep 38 45 (by kernel_rfl) rfl)
    | 40, ho =>
      obtain rfl := Option.some.inj ho
      exact s5_40 rfl hJ (hdep 39 46 (by kernel_rfl) rfl)
    | 41, ho =>
      obtain rfl := Option.some.inj ho
      exact s5_41 rfl hJ (hdep 40 47 (by kernel_rfl) rfl) (chm0 w hJ)
    | 42, ho =>
      obtain rfl := Option.some.inj ho
      exact s5_42 rfl hJ (hdep 41 48 (by kernel_rfl) rfl)
    | 43, ho =>
      obtain rfl := Option.some.inj ho
      exact s5_43 rfl hJ (hdep 42 49 (by kernel_rfl) rfl) h1
    | 44, ho =>
      obtain rfl := Option.some.inj ho
      exact s5_44 rfl hJ (hdep 0 7 (by kernel_rfl) rfl) (hdep 1 8 (by kernel_rfl) rfl) (hdep 2 9 (by kernel_rfl) rfl) (hdep 5 12 (by kernel_rfl) rfl) (hdep 8 15 (by kernel_rfl) rfl) (hdep 14 21 (by kernel_rfl) rfl) (hdep 15 22 (by kernel_rfl) rfl) (hdep 25 32 (by kernel_rfl) rfl) (hdep 31 38 (by kernel_rfl) rfl) (hdep 37 44 (by kernel_rfl) rfl) (hdep 43 50 (by kernel_rfl) rfl)
    | 45, ho =>
      obtain rfl := Option.some.inj ho
      exact s5_45 rfl hJ (hdep 44 51 (by kernel_rfl) rfl) hB
    | 46, ho =>
      obtain rfl := Option.some.inj ho
      exact s5_46 rfl hJ (hdep 45 52 (by kernel_rfl) rfl)
    | n + 47, ho => simp at ho

end Go.Proofs.Ybulkexoxc
