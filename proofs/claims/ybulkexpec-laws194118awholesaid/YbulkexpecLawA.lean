/- LawS194118AWhole (function 3): the walk. -/
import Derived.Test.YbulkexpecLinksAt
import Derived.Deep.DeepCutAuto
import Derived.Deep.CutBlock
import Derived.BigQuiet
namespace Go.Proofs.Ybulkexpec
open Go.RowKit Go.PK Go.RegInv
set_option linter.unusedVariables false

set_option maxHeartbeats 1000000 in
set_option maxRecDepth 100000 in
theorem lawA_big (a0 : Option Addr) (n cap0 : Nat) (pad an tg st en : Int) (av : Value) (w : World) (h : 65536 < n) (hm : n ≤ maxLen) :
    Calls Yba.prog 3 #[.slice a0 n cap0, .int .u8 pad, .int .i64 an, .int .i64 tg, .int .i64 st, .int .i64 en, av] w fun e w' => e = .returned (.bool true) ∧ Below w.heap.size w w' := by
  unfold maxLen at hm
  go_enter Yba.func3, Yba.ntmps3
  go_wp2
  go_ret
  exact ⟨rfl, Below.refl _ _⟩

def slen : Value → Nat
  | .slice _ n _ => n
  | _ => 0

set_option maxHeartbeats 4000000 in
set_option maxRecDepth 100000 in
theorem lawA_small (a0 : Option Addr) (n cap0 : Nat) (pad an tg st en : Int) (av : Value) (zv : Option (List Int)) (S E : Nat → Int) (A : Nat → Value) (Z : Nat → Option (List Int)) (w : World) (h1 : n ≤ 65536)
    (hpre : PreAt w a0 n S E A Z) (hav : SrcIs w av zv) (hp0 : 0 ≤ pad) (hp1 : pad ≤ 255) :
    Calls Yba.prog 3 #[.slice a0 n cap0, .int .u8 pad, .int .i64 an, .int .i64 tg, .int .i64 st, .int .i64 en, av] w fun e w' => e = .returned (.bool true) ∧ Below w.heap.size w w' := by
  have Hpre : Hid (PreAt w a0 n S E A Z) := hpre
  clear hpre
  obtain ⟨aa, la, ca, rfl⟩ := hav.form
  go_enter Yba.func3, Yba.ntmps3
  go_wp2_with fail
  go_loop [15, 36] (fun t i => ∃ (k : Nat) (tt : Int), k ≤ n ∧ i = .int .i64 k ∧ t = .int .i64 tt) (fun _ i => n - (intOf i).toNat)
  case atStart => exact ⟨0, _, by omega, rfl, rfl⟩
  case round =>
    obtain ⟨k, tt, hk, rfl, rfl⟩ := hrel
    by_cases hlt : k < n
    · obtain ⟨b, o, ha, hb, c0, c1, c2, hs⟩ := Hpre.out k hlt
      subst ha
      obtain ⟨ka, kl, kc, hA⟩ := hs.form
      rw [hA] at c2
      go_wp2_with fail
      exact ⟨⟨k + 1, _, by omega, by go_num, rfl⟩, by simp [intOf]; omega⟩
    · by_cases htt : 1048576 < tt
      · go_wp2_with fail
        go_ret
        exact ⟨rfl, Below.refl _ _⟩
      · go_wp2_with fail
        go_loopw [17, 52] (fun lv i wr => ∃ k : Nat, k ≤ n ∧ i = .int .i64 k ∧ Below w.heap.size w wr ∧ LinksAt w.heap.size wr lv k S E Z) (fun _ i _ => n - (intOf i).toNat)
        case atStart => exact ⟨0, by omega, rfl, Below.refl _ _, LinksAt.nil _ _ _ _ _⟩
        case round =>
          obtain ⟨k, hk, rfl, hbel, xs, hown, hxs⟩ := hrel
          by_cases hlt : k < n
          · obtain ⟨b, o, ha, hb, c0', c1', c2', hs⟩ := Hpre.out k hlt
            subst ha
            obtain ⟨ka, kl, kc, hA⟩ := hs.form
            go_wp2_with fail
            refine wp_region_put (by kernel_rfl) (by kernel_rfl) (by kernel_rfl) (Goodl15 w.heap.size wr.heap.size b o n cap0 k k u17 xs (S k) (E k) (A k) (Z k)) (JL w.heap.size wr.heap.size u17 k xs wr) (StepL wr.heap.size u17) ?stable ?start ?step ?fin
            case stable =>
              exact fun i j v w w' hij hnd hg hS => Goodl15.stable i j v w w' hij (fun hj hi => by subst hj; subst hi; exact Bool.noConfusion ((by kernel_rfl : hasDep _ 20 19 = true).symm.trans hnd)) hg hS
            case start => exact ⟨⟨rfl, rfl, rfl⟩, Nat.le_refl _, fun _ _ _ => rfl, fun _ => hown, fun q hq => (hown.lt q hq).2⟩
            case step =>
              have hcell : ∀ x d, JL w.heap.size wr.heap.size u17 k xs wr d x → ∀ p : Nat, x.cell? ⟨b, p, none⟩ = w.cell? ⟨b, p, none⟩ := by
                intro x d hx p
                have hne : some b ≠ u17.ownBlock := fun e => by have := (hown.lt b e.symm).1; omega
                rw [World.cell?_of_block (w := wr) (hx.2.2.1 b (Nat.lt_of_lt_of_le hb hbel.size) hne), hbel.cell (p := ⟨b, p, none⟩) hb]
              have c0 : ∀ x {d}, JL w.heap.size wr.heap.size u17 k xs wr d x → x.cell? ⟨b, o + k * 3, none⟩ = some (.int .i64 (S k)) := fun x d hx => by rw [hcell x d hx]; exact c0'
              have c1 : ∀ x {d}, JL w.heap.size wr.heap.size u17 k xs wr d x → x.cell? ⟨b, o + k * 3 + 1, none⟩ = some (.int .i64 (E k)) := fun x d hx => by rw [hcell x d hx]; exact c1'
              have c2 : ∀ x {d}, JL w.heap.size wr.heap.size u17 k xs wr d x → x.cell? ⟨b, o + k * 3 + 2, none⟩ = some (A k) := fun x d hx => by rw [hcell x d hx]; exact c2'
              have csrc : ∀ x {d}, JL w.heap.size wr.heap.size u17 k xs wr d x → SrcIs x (A k) (Z k) := fun x d hx => by
                refine hs.keep ⟨hx.1.1.trans hbel.os, hx.1.2.1.trans hbel.tape, hx.1.2.2.trans hbel.output, Nat.le_trans hbel.size hx.2.1, fun q hq => ?_⟩
                rw [hx.2.2.1 q (Nat.lt_of_lt_of_le hq hbel.size) (fun e => by have := (hown.lt q e.symm).1; omega)]; exact hbel.block q hq
              have hA : ∃ aa l c, A k = .slice aa l c := ⟨_, _, _, hA⟩
              have hmm : k ≤ 1000000 := by omega
              have hBN : w.heap.size ≤ wr.heap.size := hbel.size
              clear c0' c1' c2' hxs hown
              intro i oo ho a w hold hlate hdep d hdi hdd hJ
              match i, ho with
              | 0, ho =>
                obtain rfl := Option.some.inj ho
                exact l15_0 rfl hJ (hlate 20 17 rfl (by kernel_rfl))
              | 1, ho =>
                obtain rfl := Option.some.inj ho
                exact l15_1 rfl hJ (hold 0 (by kernel_rfl))
              | 2, ho =>
                obtain rfl := Option.some.inj ho
                exact l15_2 rfl hJ (hold 18 (by kernel_rfl))
              | 3, ho =>
                obtain rfl := Option.some.inj ho
                exact l15_3 rfl hJ (hdep 1 56 (by kernel_rfl) rfl) (hdep 2 57 (by kernel_rfl) rfl) hlt (by omega)
              | 4, ho =>
                obtain rfl := Option.some.inj ho
                exact l15_4 rfl hJ (hdep 3 58 (by kernel_rfl) rfl)
              | 5, ho =>
                obtain rfl := Option.some.inj ho
                exact l15_5 rfl hJ (hdep 4 59 (by kernel_rfl) rfl) (c0 w hJ)
              | 6, ho =>
                obtain rfl := Option.some.inj ho
                exact l15_6 rfl hJ (hold 0 (by kernel_rfl))
              | 7, ho =>
                obtain rfl := Option.some.inj ho
                exact l15_7 rfl hJ (hold 18 (by kernel_rfl))
              | 8, ho =>
                obtain rfl := Option.some.inj ho
                exact l15_8 rfl hJ (hdep 6 61 (by kernel_rfl) rfl) (hdep 7 62 (by kernel_rfl) rfl) hlt (by omega)
              | 9, ho =>
                obtain rfl := Option.some.inj ho
                exact l15_9 rfl hJ (hdep 8 63 (by kernel_rfl) rfl)
              | 10, ho =>
                obtain rfl := Option.some.inj ho
                exact l15_10 rfl hJ (hdep 9 64 (by kernel_rfl) rfl) (c1 w hJ)
              | 11, ho =>
                obtain rfl := Option.some.inj ho
                exact l15_11 rfl hJ (hold 0 (by kernel_rfl))
              | 12, ho =>
                obtain rfl := Option.some.inj ho
                exact l15_12 rfl hJ (hold 18 (by kernel_rfl))
              | 13, ho =>
                obtain rfl := Option.some.inj ho
                exact l15_13 rfl hJ (hdep 11 66 (by kernel_rfl) rfl) (hdep 12 67 (by kernel_rfl) rfl) hlt (by omega)
              | 14, ho =>
                obtain rfl := Option.some.inj ho
                exact l15_14 rfl hJ (hdep 13 68 (by kernel_rfl) rfl)
              | 15, ho =>
                obtain rfl := Option.some.inj ho
                exact l15_15 rfl hJ (hdep 14 69 (by kernel_rfl) rfl) (c2 w hJ) hA
              | 16, ho =>
                obtain rfl := Option.some.inj ho
                exact l15_16 rfl hJ (hdep 15 70 (by kernel_rfl) rfl) (csrc w hJ) hJ.2.1
              | 17, ho =>
                obtain rfl := Option.some.inj ho
                exact l15_17 rfl hJ (hdep 5 60 (by kernel_rfl) rfl) (hdep 10 65 (by kernel_rfl) rfl) (hdep 16 71 (by kernel_rfl) rfl)
              | 18, ho =>
                obtain rfl := Option.some.inj ho
                exact l15_18 rfl hJ (hdep 17 72 (by kernel_rfl) rfl) hJ.2.1
              | 19, ho =>
                obtain rfl := Option.some.inj ho
                exact l15_19 rfl hJ (hdep 0 55 (by kernel_rfl) rfl) (hdep 18 73 (by kernel_rfl) rfl) hdi hmm hBN
              | 20, ho =>
                obtain rfl := Option.some.inj ho
                exact l15_20 rfl hJ (hdep 19 74 (by kernel_rfl) rfl)
              | q + 21, ho => simp at ho
            case fin =>
              intro f w3 d hgood hall hJ
              have hr : LinkRow w.heap.size wr.heap.size k xs (S k) (E k) (Z k) (f 17) w3 := hgood 20 17 rfl
              have hb3 : Below w.heap.size w w3 := by
                refine hbel.trans ⟨hJ.1.1, hJ.1.2.1, hJ.1.2.2, hJ.2.1, fun q hq => hJ.2.2.1 q (Nat.lt_of_lt_of_le hq hbel.size) (fun e => ?_)⟩
                have := (hown.lt q e.symm).1; omega
              have hL := LinksAt.snoc hbel.size hown hxs hr (fun q o ho hne => by rw [hJ.2.2.1 q (blk_lt ho) hne]; exact ho)
              clear hgood hall hJ hr
              simp only [dsts, List.filterMap_cons, List.filterMap_nil, List.foldl_cons, List.foldl_nil]
              go_wp2_with fail
              exact ⟨⟨k + 1, by omega, by go_num, hb3, hL⟩, by simp [intOf]; omega⟩
          · obtain rfl : n = k := by omega
            have Hxs : Hid (∀ i, i < n → xs[i * 3]? = some (.int .i64 (S i)) ∧ xs[i * 3 + 1]? = some (.int .i64 (E i)) ∧ ∃ u, xs[i * 3 + 2]? = some u ∧ AddrIs w.heap.size wr u (Z i)) := hxs
            clear hxs
            go_upto_block 4 with fail
            go_cut [19] (fun f x => ∃ fl : Nat, fl ≤ 1025 ∧ f = .int .i64 fl ∧ x = wr)
            case first =>
              go_wp2_with fail
              all_goals
                go_meet
                case rel => first | exact ⟨0, by omega, rfl, rfl⟩ | exact ⟨1023, by omega, rfl, rfl⟩ | exact ⟨1024, by omega, rfl, rfl⟩ | exact ⟨1025, by omega, rfl, rfl⟩
            case rest =>
              obtain ⟨fl, hfl, rfl, hwc⟩ := hcut
              subst hwc
              have hL0 : LinksAt w.heap.size wc u17 n S E Z := ⟨xs, hown, Hxs.out⟩
              clear hown Hxs xs
              go_wp2_with fail
              go_loopw [17] (fun lv wl => ∃ (m : Nat) (S E : Nat → Int) (Z : Nat → Option (List Int)), m ≤ 65536 ∧ Below w.heap.size w wl ∧ LinksAt w.heap.size wl lv m S E Z) (fun lv _ => fl - slen lv)
              case atStart => exact ⟨n, S, E, Z, by omega, hbel, hL0⟩
              case round =>
                clear hbel hL0
                obtain ⟨m, S', E', Z', hm, hbel, xs, hown, hxs⟩ := hrel
                obtain ⟨lp, lc, hLV, hlt⟩ := LinksAt.form ⟨xs, hown, hxs⟩
                have HL : Hid (∀ i, i < m → xs[i * 3]? = some (.int .i64 (S' i)) ∧ xs[i * 3 + 1]? = some (.int .i64 (E' i)) ∧ ∃ u, xs[i * 3 + 2]? = some u ∧ AddrIs w.heap.size wr u (Z' i)) := hxs
                clear hxs
                by_cases hmf : m < fl
                · subst hLV
                  go_wp2_with (at_builtin; refine wpList_link _ rfl _ _ rfl w.heap.size m _ xs rfl ?hown _ (m : Int) ((m : Int) + 1) (.slice none 0 0) rfl ?hcb ?hue ?hm ?hB ?hK)
                  case hown => exact hown.alloc _
                  case hcb => exact blk_new _ _
                  case hue => exact ⟨_, _, _, rfl⟩
                  case hm => omega
                  case hB => have := hbel.size; first | omega | (simp only [World.size_alloc]; omega)
                  case hK =>
                    intro g cap w1 hown1 hgrow
                    have hb1 : Below w.heap.size w w1 := (hbel.alloc hbel.size _).grown hgrow (by have := hbel.size; simp only [World.size_alloc]; omega) (by intro k' hk'; have := (hlt k' hk').1; omega)
                    have hL1 := LinksAt.snoc' (N := w.heap.size) (Nat.le_refl _) hown HL.out (w' := w1) (s := (m : Int)) (e := (m : Int) + 1) (z := none) ⟨g, cap, .slice none 0 0, rfl, hown1, .inl ⟨rfl, rfl⟩⟩ (fun b o ho hne => blk_grown (blk_alloc ho _) hgrow hne)
                    clear hgrow hown hown1 HL
                    go_wp2_with fail
                    exact ⟨⟨m + 1, _, _, _, by omega, hb1, hL1⟩, by simp [slen]; omega⟩
                · have hL0 : LinksAt w.heap.size wr u17 m S' E' Z' := ⟨xs, hown, HL.out⟩
                  clear hown HL xs
                  subst hLV
                  have mk := fun w => make_links (m + 1) (by omega) ((m : Int) + 1) (by omega) w
                  go_wp2_with fail
                  obtain ⟨W, rfl⟩ : ∃ W, W = wr := ⟨_, rfl⟩
                  go_loopw [21, 103] (fun wv i x => ∃ k : Nat, k ≤ m ∧ i = .int .i64 k ∧ Below W.heap.size W x ∧ LinksAt W.heap.size x wv k S' E' Z') (fun _ i _ => m - (intOf i).toNat)
                  case atStart => exact ⟨0, by omega, rfl, (Below.refl _ _).alloc (Nat.le_refl _) _, LinksAt.made (m + 1) (by omega) W S' E' Z'⟩
                  case round =>
                    obtain ⟨k, hk, rfl, hbel4, xs, hown, hxs⟩ := hrel
                    have HL : Hid (∀ i, i < k → xs[i * 3]? = some (.int .i64 (S' i)) ∧ xs[i * 3 + 1]? = some (.int .i64 (E' i)) ∧ ∃ u, xs[i * 3 + 2]? = some u ∧ AddrIs W.heap.size wr u (Z' i)) := hxs
                    clear hxs
                    by_cases hltk : k < m
                    · obtain ⟨b, cap, A, hLV, hb, _, c0', c1', c2', hs'⟩ := hL0.at hltk
                      have hs := hs'.src
                      obtain ⟨rfl, rfl⟩ : lp = some ⟨b, 0, none⟩ ∧ lc = cap := by simpa using hLV
                      obtain ⟨ka, kl, kc, hA⟩ := hs.form
                      clear hs' hLV
                      go_wp2_with fail
                      refine wp_region_put (by kernel_rfl) (by kernel_rfl) (by kernel_rfl) (Goodl32 W.heap.size wr.heap.size b 0 m lc k k u21 xs (S' k) (E' k) A (Z' k)) (JL W.heap.size wr.heap.size u21 k xs wr) (StepL wr.heap.size u21) ?stable ?start ?step ?fin
                      case stable =>
                        exact fun i j v w w' hij hnd hg hS => Goodl32.stable i j v w w' hij (fun hj hi => by subst hj; subst hi; exact Bool.noConfusion ((by kernel_rfl : hasDep _ 20 19 = true).symm.trans hnd)) hg hS
                      case start => exact ⟨⟨rfl, rfl, rfl⟩, Nat.le_refl _, fun _ _ _ => rfl, fun _ => hown, fun q hq => (hown.lt q hq).2⟩
                      case step =>
                        have hcell : ∀ x d, JL W.heap.size wr.heap.size u21 k xs wr d x → ∀ p : Nat, x.cell? ⟨b, p, none⟩ = W.cell? ⟨b, p, none⟩ := by
                          intro x d hx p
                          have hne : some b ≠ u21.ownBlock := fun e => by have := (hown.lt b e.symm).1; omega
                          rw [World.cell?_of_block (w := wr) (hx.2.2.1 b (Nat.lt_of_lt_of_le hb hbel4.size) hne), hbel4.cell (p := ⟨b, p, none⟩) hb]
                        have c0 : ∀ x {d}, JL W.heap.size wr.heap.size u21 k xs wr d x → x.cell? ⟨b, 0 + k * 3, none⟩ = some (.int .i64 (S' k)) := fun x d hx => by rw [hcell x d hx]; exact c0'
                        have c1 : ∀ x {d}, JL W.heap.size wr.heap.size u21 k xs wr d x → x.cell? ⟨b, 0 + k * 3 + 1, none⟩ = some (.int .i64 (E' k)) := fun x d hx => by rw [hcell x d hx]; exact c1'
                        have c2 : ∀ x {d}, JL W.heap.size wr.heap.size u21 k xs wr d x → x.cell? ⟨b, 0 + k * 3 + 2, none⟩ = some A := fun x d hx => by rw [hcell x d hx]; exact c2'
                        have csrc : ∀ x {d}, JL W.heap.size wr.heap.size u21 k xs wr d x → SrcIs x A (Z' k) := fun x d hx => by
                          refine hs.keep ⟨hx.1.1.trans hbel4.os, hx.1.2.1.trans hbel4.tape, hx.1.2.2.trans hbel4.output, Nat.le_trans hbel4.size hx.2.1, fun q hq => ?_⟩
                          rw [hx.2.2.1 q (Nat.lt_of_lt_of_le hq hbel4.size) (fun e => by have := (hown.lt q e.symm).1; omega)]; exact hbel4.block q hq
                        have hA : ∃ aa l c, A = .slice aa l c := ⟨_, _, _, hA⟩
                        have hmm : k ≤ 1000000 := by omega
                        have hBN : W.heap.size ≤ wr.heap.size := hbel4.size
                        have hlt := hltk
                        clear c0' c1' c2' HL hown
                        intro i oo ho a w hold hlate hdep d hdi hdd hJ
                        match i, ho with
                        | 0, ho =>
                          obtain rfl := Option.some.inj ho
                          exact l32_0 rfl hJ (hlate 20 21 rfl (by kernel_rfl))
                        | 1, ho =>
                          obtain rfl := Option.some.inj ho
                          exact l32_1 rfl hJ (hold 17 (by kernel_rfl))
                        | 2, ho =>
                          obtain rfl := Option.some.inj ho
                          exact l32_2 rfl hJ (hold 22 (by kernel_rfl))
                        | 3, ho =>
                          obtain rfl := Option.some.inj ho
                          exact l32_3 rfl hJ (hdep 1 107 (by kernel_rfl) rfl) (hdep 2 108 (by kernel_rfl) rfl) hlt (by omega)
                        | 4, ho =>
                          obtain rfl := Option.some.inj ho
                          exact l32_4 rfl hJ (hdep 3 109 (by kernel_rfl) rfl)
                        | 5, ho =>
                          obtain rfl := Option.some.inj ho
                          exact l32_5 rfl hJ (hdep 4 110 (by kernel_rfl) rfl) (c0 w hJ)
                        | 6, ho =>
                          obtain rfl := Option.some.inj ho
                          exact l32_6 rfl hJ (hold 17 (by kernel_rfl))
                        | 7, ho =>
                          obtain rfl := Option.some.inj ho
                          exact l32_7 rfl hJ (hold 22 (by kernel_rfl))
                        | 8, ho =>
                          obtain rfl := Option.some.inj ho
                          exact l32_8 rfl hJ (hdep 6 112 (by kernel_rfl) rfl) (hdep 7 113 (by kernel_rfl) rfl) hlt (by omega)
                        | 9, ho =>
                          obtain rfl := Option.some.inj ho
                          exact l32_9 rfl hJ (hdep 8 114 (by kernel_rfl) rfl)
                        | 10, ho =>
                          obtain rfl := Option.some.inj ho
                          exact l32_10 rfl hJ (hdep 9 115 (by kernel_rfl) rfl) (c1 w hJ)
                        | 11, ho =>
                          obtain rfl := Option.some.inj ho
                          exact l32_11 rfl hJ (hold 17 (by kernel_rfl))
                        | 12, ho =>
                          obtain rfl := Option.some.inj ho
                          exact l32_12 rfl hJ (hold 22 (by kernel_rfl))
                        | 13, ho =>
                          obtain rfl := Option.some.inj ho
                          exact l32_13 rfl hJ (hdep 11 117 (by kernel_rfl) rfl) (hdep 12 118 (by kernel_rfl) rfl) hlt (by omega)
                        | 14, ho =>
                          obtain rfl := Option.some.inj ho
                          exact l32_14 rfl hJ (hdep 13 119 (by kernel_rfl) rfl)
                        | 15, ho =>
                          obtain rfl := Option.some.inj ho
                          exact l32_15 rfl hJ (hdep 14 120 (by kernel_rfl) rfl) (c2 w hJ) hA
                        | 16, ho =>
                          obtain rfl := Option.some.inj ho
                          exact l32_16 rfl hJ (hdep 15 121 (by kernel_rfl) rfl) (csrc w hJ) hJ.2.1
                        | 17, ho =>
                          obtain rfl := Option.some.inj ho
                          exact l32_17 rfl hJ (hdep 5 111 (by kernel_rfl) rfl) (hdep 10 116 (by kernel_rfl) rfl) (hdep 16 122 (by kernel_rfl) rfl)
                        | 18, ho =>
                          obtain rfl := Option.some.inj ho
                          exact l32_18 rfl hJ (hdep 17 123 (by kernel_rfl) rfl) hJ.2.1
                        | 19, ho =>
                          obtain rfl := Option.some.inj ho
                          exact l32_19 rfl hJ (hdep 0 106 (by kernel_rfl) rfl) (hdep 18 124 (by kernel_rfl) rfl) hdi hmm hBN
                        | 20, ho =>
                          obtain rfl := Option.some.inj ho
                          exact l32_20 rfl hJ (hdep 19 125 (by kernel_rfl) rfl)
                        | q + 21, ho => simp at ho
                      case fin =>
                        intro f w3 d hgood hall hJ
                        have hr : LinkRow W.heap.size wr.heap.size k xs (S' k) (E' k) (Z' k) (f 21) w3 := hgood 20 21 rfl
                        have hb3 : Below W.heap.size W w3 := by
                          refine hbel4.trans ⟨hJ.1.1, hJ.1.2.1, hJ.1.2.2, hJ.2.1, fun q hq => hJ.2.2.1 q (Nat.lt_of_lt_of_le hq hbel4.size) (fun e => ?_)⟩
                          have := (hown.lt q e.symm).1; omega
                        have hL := LinksAt.snoc hbel4.size hown HL.out hr (fun q o ho hne => by rw [hJ.2.2.1 q (blk_lt ho) hne]; exact ho)
                        clear hgood hall hJ hr
                        simp only [dsts, List.filterMap_cons, List.filterMap_nil, List.foldl_cons, List.foldl_nil]
                        go_wp2_with fail
                        exact ⟨⟨k + 1, by omega, by go_num, hb3, hL⟩, by simp [intOf]; omega⟩
                    · obtain rfl : m = k := by omega
                      have hL4 : LinksAt W.heap.size wr u21 m S' E' Z' := ⟨xs, hown, HL.out⟩
                      clear hown HL xs
                      obtain ⟨W4, rfl⟩ : ∃ W4, W4 = wr := ⟨_, rfl⟩
                      have hs4 := (hav.keep hbel).keep hbel4
                      go_wp2_with (go_at_call 4; refine (clone_any _ zv _ hs4).mono ?_)
                      intro e x5 ⟨cv, he, hcv, hb5⟩
                      subst he
                      obtain ⟨ha, hl, hc, hcve⟩ := hcv.form
                      subst hcve
                      have hb05 : Below w.heap.size w x5 := (hbel.trans (hbel4.mono hbel.size)).trans (hb5.mono (Nat.le_trans hbel.size hbel4.size))
                      have hbW5 : Below W.heap.size W x5 := hbel4.trans (hb5.mono hbel4.size)
                      have hs5 := hs4.keep hb5
                      have hla : la ≤ 140737488351232 := by
                        rcases hav with ⟨e, _⟩ | ⟨y, c, zs, e, _, hz, _⟩
                        · simp at e; omega
                        · simp at e; omega
                      by_cases hac : 0 < la ∧ st < en ∧ m < 1024
                      · as_aux_lemma =>
                          obtain ⟨ac1, ac2, ac3⟩ := hac
                          have ab1 : ((la : Int) != 0) = true := by simp; omega
                          have ab2 : decide (st < en) = true := by simpa using ac2
                          have ab3 : decide ((m : Int) ≤ 1023) = true := by simp; omega
                          go_wp2_with (go_at_call 4; refine (clone_any _ zv _ hs5).mono ?_)
                          intro e x6 ⟨cw, he, hcw, hb6⟩
                          subst he
                          obtain ⟨wa, wl, wc', hcwe⟩ := hcw.form
                          subst hcwe
                          obtain ⟨xs4, hown4, hxs4⟩ := hL4
                          have HL4 : Hid (∀ i, i < m → xs4[i * 3]? = some (.int .i64 (S' i)) ∧ xs4[i * 3 + 1]? = some (.int .i64 (E' i)) ∧ ∃ u, xs4[i * 3 + 2]? = some u ∧ AddrIs W.heap.size W4 u (Z' i)) := hxs4
                          clear hxs4
                          have hb46 : Below W4.heap.size W4 x6 := hb5.trans (hb6.mono hb5.size)
                          have hownA : ∀ o : Obj, (x6.alloc o).ownsRow W.heap.size 28 3 u21 m xs4 := fun o => by
                            rcases Joins.ownsRow_forms hown4 with ⟨rfl, rfl⟩ | ⟨g, cap, rfl⟩
                            · exact ⟨hown4.1, .inl ⟨rfl, rfl⟩⟩
                            · exact own_keep hown4 fun o' ho => blk_alloc (blk_below ho hb46 (blk_lt ho)) o
                          go_wp2_with (at_builtin; refine wpList_link _ rfl _ _ rfl W.heap.size m _ xs4 rfl ?hown7 _ st en (.slice wa wl wc') rfl ?hcb7 ?hue7 ?hm7 ?hB7 ?hK7)
                          case hown7 => exact hownA _
                          case hcb7 => exact blk_new _ _
                          case hue7 => exact ⟨_, _, _, rfl⟩
                          case hm7 => omega
                          case hB7 => have := hbel4.size; have := hb46.size; simp only [World.size_alloc]; omega
                          case hK7 =>
                            intro g7 cap7 x7 hown7 hgrow7
                            have hu21 := fun q hq => (hown4.lt q hq)
                            have z1 := hbel.size
                            have z2 := hbel4.size
                            have z3 := hb5.size
                            have z4 := hb6.size
                            have z5 := hgrow7.size
                            rw [World.size_alloc] at z5
                            have k67 : ∀ (b : Nat) (o : Obj), W4.heap.size ≤ b → x6.heap[b]? = some o → x7.heap[b]? = some o := fun b o hb ho => blk_grown (blk_alloc ho _) hgrow7 (fun e => by have := (hu21 b e.symm).2; omega)
                            have hb67 : Below W.heap.size x6 x7 := ((Below.refl _ x6).alloc (by omega) _).grown hgrow7 (by rw [World.size_alloc]; omega) (fun k hk => (hu21 k hk).1)
                            have hbW7 : Below W.heap.size W x7 := (hbW5.trans (hb6.mono (by omega))).trans hb67
                            have hw7 : LinksAt W.heap.size x7 (.slice (some ⟨g7, 0, none⟩) (m + 1) cap7) (m + 1) (upd S' m st) (upd E' m en) (upd Z' m zv) :=
                              LinksAt.snoc' (N := x5.heap.size) (by omega) hown4 HL4.out ⟨g7, cap7, _, rfl, hown7, hcw.keep (Nat.le_refl _) (fun b o hb ho => k67 b o (by omega) ho)⟩ (fun b cur ho hne => blk_grown (blk_alloc (blk_below ho hb46 (blk_lt ho)) _) hgrow7 hne)
                            have hcv7 : AddrIs W4.heap.size x7 (.slice ha hl hc) zv := hcv.keep (Nat.le_refl _) (fun b o hb ho => k67 b o hb (blk_below ho hb6 (blk_lt ho)))
                            have hb07 : Below w.heap.size w x7 := hbel.trans (hbW7.mono z1)
                            obtain ⟨C34, hC34⟩ : ∃ C, C = Obj.cells (setCells (.slice lp m lc) an tg) 34 := ⟨_, rfl⟩
                            have hb8 : ∀ o, Below x7.heap.size x7 (x7.alloc o) := fun o => (Below.refl _ _).alloc (Nat.le_refl _) o
                            obtain ⟨xsL, hownL, hxsL⟩ := hL0.keep (w' := x7.alloc C34) (fun b o ho => blk_alloc (blk_below ho hbW7 (blk_lt ho)) _)
                            have hsrc8 : ∀ o, SrcIs (x7.alloc o) (.slice aa la ca) zv := fun o => (hav.keep hb07).keep (hb8 o)
                            have hsep : ∀ x : Addr, aa = some x → some x.block ≠ (Value.slice lp m lc).ownBlock ∧ x.block ≠ x7.heap.size := by
                              intro x hx
                              rcases hav with ⟨e, _⟩ | ⟨y, c, zs, e, hz, hl', hcc, _⟩
                              · simp at e; omega
                              · simp at e
                                have hy := (hcc 0 (by omega)).1
                                have hxy : x = y := by rw [hx] at e; exact Option.some.inj e.1
                                subst hxy
                                exact ⟨fun e => by have := (hlt _ e.symm).1; omega, by omega⟩
                            subst hC34
                            go_wp2_with (go_at_call 5; refine (add_yes w.heap.size x7.heap.size m lc la ca lp aa xsL st en an tg zv _ (blk_new _ _) hownL (hsrc8 _) ac3 ac2 ac1 hla ?hBB (fun _ _ => trivial) hsep).mono ?_)
                            case hBB => rw [World.size_alloc]; omega
                            intro e X ⟨he, v9, hr9, hlbX, hos9, hsz9, hfr9⟩
                            subst he
                            have hlow : ∀ q, (Value.slice lp m lc).ownBlock = some q → q < W.heap.size := fun q hq => (hlt q hq).2
                            have hX5 : ∀ b o, (x7.alloc (.cells (setCells (.slice lp m lc) an tg) 34)).heap[b]? = some o → some b ≠ (Value.slice lp m lc).ownBlock → b ≠ x7.heap.size → X.heap[b]? = some o := fun b o ho n1 n2 => by rw [hfr9 b (blk_lt ho) n1 n2]; exact ho
                            have hlbne : ∀ b cur, (x7.alloc (.cells (setCells (.slice lp m lc) an tg) 34)).heap[b]? = some (.cells cur 5) → b ≠ x7.heap.size := fun b cur ho => ne_of_type ho (blk_new _ _) (by decide)
                            have hbX : Below w.heap.size w X := hb07.trans ⟨hos9.1, hos9.2.1, hos9.2.2, by rw [World.size_alloc] at hsz9; omega, fun b hb => by
                              have e1 := hfr9 b (by rw [World.size_alloc]; omega) (fun e => by have := (hlt b e.symm).1; omega) (by omega)
                              rw [e1, Below.heap_alloc _ _ _ (by omega)]⟩
                            have hlX : LinksAt w.heap.size X v9 (m + 1) (upd S' m st) (upd E' m en) (upd Z' m zv) :=
                              LinksAt.snoc' (N := (x7.alloc (.cells (setCells (.slice lp m lc) an tg) 34)).heap.size) (by rw [World.size_alloc]; omega) hownL hxsL hr9 (fun b cur ho hne => hX5 b _ ho hne (hlbne b cur ho))
                            have hwX : LinksAt W.heap.size X (.slice (some ⟨g7, 0, none⟩) (m + 1) cap7) (m + 1) (upd S' m st) (upd E' m en) (upd Z' m zv) := by
                              refine hw7.keep_ne (fun b => some b = (Value.slice lp m lc).ownBlock ∨ b = x7.heap.size) ?_ ?_ ?_
                              · intro q hq hh
                                obtain ⟨_, _, _, hlq⟩ := hw7.form
                                have := hlq q hq
                                rcases hh with hh | hh
                                · have := hlow q hh.symm; omega
                                · omega
                              · intro q cur hq hh
                                rcases hh with hh | hh
                                · rcases Joins.ownsRow_forms hownL with ⟨e, _⟩ | ⟨g, cap, e⟩
                                  · rw [e] at hh; simp [Value.ownBlock] at hh
                                  · rw [e] at hh hownL
                                    obtain ⟨cur2, hc2, _⟩ := own_blk hownL
                                    have := ne_of_type (blk_alloc hq _) hc2 (by decide)
                                    simp [Value.ownBlock] at hh
                                    exact this hh
                                · have := blk_lt hq; omega
                              · intro b o ho hne
                                exact hX5 b o (blk_alloc ho _) (fun e => hne (.inl e)) (fun e => hne (.inr e))
                            have hcvX : SrcIs X (.slice ha hl hc) zv := (hcv7.keep (Nat.le_refl _) (fun b o hb ho => hX5 b o (blk_alloc ho _) (fun e => by have := hlow b e.symm; omega) (by have := blk_lt ho; omega))).src
                            have hsX := hav.keep hbX
                            obtain ⟨S2, hS2⟩ : ∃ f, f = upd S' m st := ⟨_, rfl⟩
                            obtain ⟨E2, hE2⟩ : ∃ f, f = upd E' m en := ⟨_, rfl⟩
                            obtain ⟨Z2, hZ2⟩ : ∃ f, f = upd Z' m zv := ⟨_, rfl⟩
                            rw [← hS2, ← hE2, ← hZ2] at hwX hlX
                            clear hS2 hE2 hZ2
                            -- the tail: the same text for both ways
                            have hbX' : w.heap.size ≤ X.heap.size := hbX.size
                            have c0 : X.cell? ⟨x7.heap.size, 0, none⟩ = some (v9) := by rw [cell_of_row _ _ _ _ _ _ hlbX]; rfl
                            obtain ⟨lp2, lc2, hLV2, hlt2⟩ := hlX.form

                            subst hLV2

                            go_wp2_with (go_at_call 6; refine (eq_any _ _ zv _ hsX hcvX).mono ?_; rintro e w' ⟨rfl, hw'⟩; obtain rfl := hw'.symm)
                            go_loopw [175] (fun i x => ∃ k : Nat, k ≤ (m + 1) ∧ i = .int .i64 k ∧ Below X.heap.size X x) (fun i _ => (m + 1) - (intOf i).toNat)
                            case atStart => exact ⟨0, by omega, rfl, Below.refl _ _⟩
                            case round =>
                              obtain ⟨k, hk, rfl, hbx⟩ := hrel
                              have hlb5 := blk_below hlbX hbx (blk_lt hlbX)
                              by_cases hltk : k < (m + 1)
                              · have hl5 := hlX.keep (fun b o h => blk_below h hbx (blk_lt h))
                                have hw5 := hwX.keep (fun b o h => blk_below h hbx (blk_lt h))
                                obtain ⟨g5, cap5, A5, e5, _, _, p0, p1, p2, pa⟩ := hl5.at hltk
                                obtain ⟨g6, cap6, A6, e6, _, _, q0, q1, q2, qa⟩ := hw5.at hltk
                                obtain ⟨rfl, rfl⟩ : lp2 = some ⟨g5, 0, none⟩ ∧ lc2 = cap5 := by simpa using e5
                                obtain ⟨rfl, rfl⟩ : g7 = g6 ∧ cap7 = cap6 := by simpa using e6
                                have c05 : wr.cell? ⟨x7.heap.size, 0, none⟩ = some (.slice (some ⟨g5, 0, none⟩) (m + 1) lc2) := by rw [cell_of_row _ _ _ _ _ _ hlb5]; rfl
                                obtain ⟨s1, s2, s3, hA5⟩ := pa.form
                                obtain ⟨t1, t2, t3, hA6⟩ := qa.form
                                have pa' := pa.src
                                have qa' := qa.src
                                subst hA5
                                subst hA6
                                clear hl5 hw5 e5 e6 pa qa
                                rw [Nat.zero_add] at p0 p1 p2 q0 q1 q2
                                have nS : (S2 k != S2 k) = false := by simp
                                have nE : (E2 k != E2 k) = false := by simp
                                go_wp2_with fail
                                go_quiet ((go_at_call 6; exact Calls.quiet_of_same (eq_any _ _ (Z2 k) _ pa' qa')))
                                go_wp2_with fail
                                exact ⟨⟨k + 1, by omega, by go_num, below_drewN hbx _⟩, by simp [intOf]; omega⟩
                              · obtain rfl : k = (m + 1) := by omega
                                have n31 := neq31
                                have d0 : wr.cell? ⟨x7.heap.size, 0, none⟩ = some (.slice lp2 ((m + 1)) lc2) := by rw [cell_of_row _ _ _ _ _ _ hlb5]; rfl
                                have d1 : wr.cell? ⟨x7.heap.size, 1, none⟩ = some (.slice none 0 0) := by rw [cell_of_row _ _ _ _ _ _ hlb5]; rfl
                                have d2 : wr.cell? ⟨x7.heap.size, 2, none⟩ = some (.map none) := by rw [cell_of_row _ _ _ _ _ _ hlb5]; rfl
                                have d3 : wr.cell? ⟨x7.heap.size, 3, none⟩ = some (.slice none 0 0) := by rw [cell_of_row _ _ _ _ _ _ hlb5]; rfl
                                have d4 : wr.cell? ⟨x7.heap.size, 4, none⟩ = some (.slice none 0 0) := by rw [cell_of_row _ _ _ _ _ _ hlb5]; rfl
                                have d5 : wr.cell? ⟨x7.heap.size, 5, none⟩ = some (.int .i64 an) := by rw [cell_of_row _ _ _ _ _ _ hlb5]; rfl
                                have d6 : wr.cell? ⟨x7.heap.size, 6, none⟩ = some (.int .i64 tg) := by rw [cell_of_row _ _ _ _ _ _ hlb5]; rfl
                                have d7 : wr.cell? ⟨x7.heap.size, 7, none⟩ = some (.slice none 0 0) := by rw [cell_of_row _ _ _ _ _ _ hlb5]; rfl
                                go_wp2_with fail
                                obtain ⟨g9, u9, hg9, hg9l, hc9, hu9⟩ := hr9.last hownL.1
                                rcases hu9 with ⟨_, hz9⟩ | ⟨gu, capu, zs9, cur9, hue9, hz9, hN9, hcur9, hlen9, hcl9, _⟩
                                · exfalso
                                  rcases hav with ⟨e, _⟩ | ⟨y, c, zs, e, hz, _⟩
                                  · simp at e; omega
                                  · rw [hz9] at hz; cases hz
                                have hpos9 : 0 < zs9.length := by
                                  rcases hav with ⟨e, _⟩ | ⟨y, c, zs, e, hz, _⟩
                                  · simp at e; omega
                                  · rw [hz9] at hz
                                    cases hz
                                    simp at e
                                    omega
                                subst hg9
                                subst hue9
                                have hc9' : wr.cell? ⟨g9, m * 3 + 2, none⟩ = some (.slice (some ⟨gu, 0, none⟩) zs9.length capu) := by rw [hbx.cell (p := ⟨g9, m * 3 + 2, none⟩) hg9l]; exact hc9
                                have hbelX : w.heap.size ≤ X.heap.size := hbX.size
                                rw [World.size_alloc] at hN9
                                go_quiet (fail)
                                obtain ⟨Y, hY⟩ : ∃ Y, Y = wr.drewN nq := ⟨_, rfl⟩
                                have hbY : Below X.heap.size X Y := by rw [hY]; exact below_drewN hbx _
                                rw [← hY]
                                clear hY
                                have hYg := blk_below hcur9 hbY (blk_lt hcur9)
                                have y0 : Y.cell? ⟨gu, 0, none⟩ = some (.int .u8 (zs9.getD 0 0)) := by rw [cell_of_row _ _ _ _ _ _ hYg]; exact hcl9 0 hpos9
                                have yf := frozen_of_row Y gu 0 _ _ hYg
                                have hcvS : ∀ v, SrcIs (Y.setCell ⟨gu, 0, none⟩ v) (.slice ha hl hc) zv := fun v => (hcv7.keep (Nat.le_refl _) (fun b o hb ho => blk_set (blk_below (hX5 b o (blk_alloc ho _) (fun e => by have := hlow b e.symm; omega) (by have := blk_lt ho; omega)) hbY (blk_lt (hX5 b o (blk_alloc ho _) (fun e => by have := hlow b e.symm; omega) (by have := blk_lt ho; omega)))) (by have := blk_lt ho; show b ≠ gu; omega) v)).src
                                have hbYw : Below w.heap.size w Y := hbX.trans (hbY.mono hbelX)
                                have hsS : ∀ v, SrcIs (Y.setCell ⟨gu, 0, none⟩ v) (.slice aa la ca) zv := fun v => hav.keep (hbYw.setCell (by show w.heap.size ≤ gu; omega) v)
                                go_wp2_with (go_at_call 6; refine (eq_any _ _ zv _ (hsS _) (hcvS _)).mono ?_; rintro e w' ⟨rfl, hw'⟩; obtain rfl := hw'.symm)
                                go_ret
                                exact ⟨rfl, (hbYw.setCell (by show w.heap.size ≤ gu; omega) _).setCell (by show w.heap.size ≤ gu; omega) _⟩
                      · as_aux_lemma =>
                          have hno : 1024 ≤ m ∨ en ≤ st ∨ la = 0 := by omega
                          go_upto_region 35 with fail
                          go_cut [24] (fun c x => c = .bool false ∧ x = x5)
                          case first =>
                            by_cases n1 : la = 0
                            · have ab1 : ((la : Int) != 0) = false := by simp [n1]
                              go_wp2_with fail
                              go_meet
                              exact ⟨rfl, rfl⟩
                            · have ab1 : ((la : Int) != 0) = true := by simp; omega
                              by_cases n2 : st < en
                              · have ab2 : decide (st < en) = true := by simpa using n2
                                have ab3 : decide ((m : Int) ≤ 1023) = false := by simp; omega
                                go_wp2_with fail
                                go_meet
                                exact ⟨rfl, rfl⟩
                              · have ab2 : decide (st < en) = false := by simpa using n2
                                go_wp2_with fail
                                go_meet
                                exact ⟨rfl, rfl⟩
                          case rest =>
                            obtain ⟨rfl, hwc⟩ := hcut
                            have hwc' := hwc.symm
                            clear hwc
                            subst hwc'
                            have hm0 : m ≤ 1000000 := by omega
                            go_wp2_with (go_at_call 5; refine (add_no x5.heap.size m lc la ca lp aa st en an tg _ (blk_new _ _) hno hm0).mono ?_)
                            rintro e X ⟨rfl, hX⟩
                            have hbX5 : Below x5.heap.size x5 X := by rw [hX]; exact (Below.refl _ _).alloc (Nat.le_refl _) _
                            have hlbX : X.heap[x5.heap.size]? = some (.cells (setCells (.slice lp m lc) an tg) 34) := by rw [hX]; exact blk_new _ _
                            clear hX
                            have hbX : Below w.heap.size w X := hb05.trans (hbX5.mono hb05.size)
                            have hlX : LinksAt w.heap.size X (.slice lp m lc) m S' E' Z' := hL0.keep (fun b o h => blk_below (blk_below h hbW5 (blk_lt h)) hbX5 (blk_lt (blk_below h hbW5 (blk_lt h))))
                            obtain ⟨lp3, lc3, hu21, _⟩ := hL4.form
                            subst hu21
                            have hwX : LinksAt W.heap.size X (.slice lp3 m lc3) m S' E' Z' := hL4.keep (fun b o h => blk_below (blk_below h hb5 (blk_lt h)) hbX5 (blk_lt (blk_below h hb5 (blk_lt h))))
                            have hcvX : SrcIs X (.slice ha hl hc) zv := hcv.src.keep hbX5
                            have hsX := hav.keep hbX
                            --TAIL
                            -- the tail: the same text for both ways
                            have hbX' : w.heap.size ≤ X.heap.size := hbX.size
                            have c0 : X.cell? ⟨x5.heap.size, 0, none⟩ = some (.slice lp m lc) := by rw [cell_of_row _ _ _ _ _ _ hlbX]; rfl




                            go_wp2_with (go_at_call 6; refine (eq_any _ _ zv _ hsX hcvX).mono ?_; rintro e w' ⟨rfl, hw'⟩; obtain rfl := hw'.symm)
                            go_loopw [175] (fun i x => ∃ k : Nat, k ≤ m ∧ i = .int .i64 k ∧ Below X.heap.size X x) (fun i _ => m - (intOf i).toNat)
                            case atStart => exact ⟨0, by omega, rfl, Below.refl _ _⟩
                            case round =>
                              obtain ⟨k, hk, rfl, hbx⟩ := hrel
                              have hlb5 := blk_below hlbX hbx (blk_lt hlbX)
                              by_cases hltk : k < m
                              · have hl5 := hlX.keep (fun b o h => blk_below h hbx (blk_lt h))
                                have hw5 := hwX.keep (fun b o h => blk_below h hbx (blk_lt h))
                                obtain ⟨g5, cap5, A5, e5, _, _, p0, p1, p2, pa⟩ := hl5.at hltk
                                obtain ⟨g6, cap6, A6, e6, _, _, q0, q1, q2, qa⟩ := hw5.at hltk
                                obtain ⟨rfl, rfl⟩ : lp = some ⟨g5, 0, none⟩ ∧ lc = cap5 := by simpa using e5
                                obtain ⟨rfl, rfl⟩ : lp3 = some ⟨g6, 0, none⟩ ∧ lc3 = cap6 := by simpa using e6
                                have c05 : wr.cell? ⟨x5.heap.size, 0, none⟩ = some (.slice (some ⟨g5, 0, none⟩) m lc) := by rw [cell_of_row _ _ _ _ _ _ hlb5]; rfl
                                obtain ⟨s1, s2, s3, hA5⟩ := pa.form
                                obtain ⟨t1, t2, t3, hA6⟩ := qa.form
                                have pa' := pa.src
                                have qa' := qa.src
                                subst hA5
                                subst hA6
                                clear hl5 hw5 e5 e6 pa qa
                                rw [Nat.zero_add] at p0 p1 p2 q0 q1 q2
                                have nS : (S' k != S' k) = false := by simp
                                have nE : (E' k != E' k) = false := by simp
                                go_wp2_with fail
                                go_quiet ((go_at_call 6; exact Calls.quiet_of_same (eq_any _ _ (Z' k) _ pa' qa')))
                                go_wp2_with fail
                                exact ⟨⟨k + 1, by omega, by go_num, below_drewN hbx _⟩, by simp [intOf]; omega⟩
                              · have hkm : m = k := by omega
                                subst hkm
                                have n31 := neq31
                                have d0 : wr.cell? ⟨x5.heap.size, 0, none⟩ = some (.slice lp (m) lc) := by rw [cell_of_row _ _ _ _ _ _ hlb5]; rfl
                                have d1 : wr.cell? ⟨x5.heap.size, 1, none⟩ = some (.slice none 0 0) := by rw [cell_of_row _ _ _ _ _ _ hlb5]; rfl
                                have d2 : wr.cell? ⟨x5.heap.size, 2, none⟩ = some (.map none) := by rw [cell_of_row _ _ _ _ _ _ hlb5]; rfl
                                have d3 : wr.cell? ⟨x5.heap.size, 3, none⟩ = some (.slice none 0 0) := by rw [cell_of_row _ _ _ _ _ _ hlb5]; rfl
                                have d4 : wr.cell? ⟨x5.heap.size, 4, none⟩ = some (.slice none 0 0) := by rw [cell_of_row _ _ _ _ _ _ hlb5]; rfl
                                have d5 : wr.cell? ⟨x5.heap.size, 5, none⟩ = some (.int .i64 an) := by rw [cell_of_row _ _ _ _ _ _ hlb5]; rfl
                                have d6 : wr.cell? ⟨x5.heap.size, 6, none⟩ = some (.int .i64 tg) := by rw [cell_of_row _ _ _ _ _ _ hlb5]; rfl
                                have d7 : wr.cell? ⟨x5.heap.size, 7, none⟩ = some (.slice none 0 0) := by rw [cell_of_row _ _ _ _ _ _ hlb5]; rfl
                                go_wp2_with fail
                                go_ret
                                exact ⟨rfl, hbX.trans (hbx.mono hbX')⟩

end Go.Proofs.Ybulkexpec
