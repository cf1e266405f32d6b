/- linkSet.add (function 5): its two ways. -/
import Derived.Test.YbulkexpecAdd
namespace Go.Proofs.Ybulkexpec
open Go.RowKit Go.PK Go.RegInv
set_option linter.unusedVariables false

set_option maxHeartbeats 1000000 in
set_option maxRecDepth 100000 in
theorem add_no (lb m lcap la ca : Nat) (lp aa : Option Addr) (S E an tg : Int) (w : World) (hlb : w.heap[lb]? = some (.cells (setCells (.slice lp m lcap) an tg) 34)) (h : 1024 ≤ m ∨ E ≤ S ∨ la = 0) (hm : m ≤ 1000000) :
    Calls Yba.prog 5 #[.pointer (some ⟨lb, 0, none⟩), .int .i64 S, .int .i64 E, .slice aa la ca] w fun e w' => e = .returned (.tuple #[]) ∧ w' = w := by
  have hc : w.cell? ⟨lb, 0, none⟩ = some (.slice lp m lcap) := by rw [cell_of_row _ _ _ _ _ _ hlb]; rfl
  by_cases h1 : m < 1024
  · by_cases h2 : S < E
    · obtain rfl : la = 0 := by omega
      go_enter Yba.func5, Yba.ntmps5
      go_wp2
      go_end0
      exact ⟨rfl, rfl⟩
    · have h2' : decide (S < E) = false := by simpa using h2
      go_enter Yba.func5, Yba.ntmps5
      go_wp2
      go_end0
      exact ⟨rfl, rfl⟩
  · have h1' : decide ((m : Int) < 1024) = false := by simp; omega
    go_enter Yba.func5, Yba.ntmps5
    go_wp2
    go_end0
    exact ⟨rfl, rfl⟩

set_option maxHeartbeats 2000000 in
set_option maxRecDepth 100000 in
theorem add_yes (B lb m lcap la ca : Nat) (lp aa : Option Addr) (xs : List Value) (S E an tg : Int) (z : Option (List Int)) (w : World) (hlb : w.heap[lb]? = some (.cells (setCells (.slice lp m lcap) an tg) 34)) (hown : w.ownsRow B 28 3 (.slice lp m lcap) m xs)
    (hs : SrcIs w (.slice aa la ca) z) (h1 : m < 1024) (h2 : S < E) (h3 : 0 < la) (hla : la ≤ 140737488351232) (hB : B ≤ w.heap.size)
    (hne : ∀ q : Nat, aa = some ⟨q, 0, none⟩ → True) (hsrc : ∀ x : Addr, aa = some x → some x.block ≠ (Value.slice lp m lcap).ownBlock ∧ x.block ≠ lb) :
    Calls Yba.prog 5 #[.pointer (some ⟨lb, 0, none⟩), .int .i64 S, .int .i64 E, .slice aa la ca] w fun e w' => e = .returned (.tuple #[]) ∧ ∃ v, LinkRow B w.heap.size m xs S E z v w' ∧ w'.heap[lb]? = some (.cells (setCells v an tg) 34) ∧
      (w'.os = w.os ∧ w'.tape = w.tape ∧ w'.output = w.output) ∧ w.heap.size ≤ w'.heap.size ∧ ∀ b, b < w.heap.size → some b ≠ (Value.slice lp m lcap).ownBlock → b ≠ lb → w'.heap[b]? = w.heap[b]? := by
  have hc : w.cell? ⟨lb, 0, none⟩ = some (.slice lp m lcap) := by rw [cell_of_row _ _ _ _ _ _ hlb]; rfl
  have hlbl := blk_lt hlb
  have hAn : Value.slice aa la ca ≠ .slice none 0 0 := by
    intro e
    simp at e
    omega
  go_enter Yba.func5, Yba.ntmps5
  go_wp2_with fail
  refine wp_region_put (by kernel_rfl) (by kernel_rfl) (by kernel_rfl) (GoodA B w.heap.size lb m (.slice lp m lcap) xs S E (.slice aa la ca) z) (fun d x => JA B w.heap.size lb m (.slice lp m lcap) xs S E z an tg w d x ∧ (d 14 = true → d 11 = true) ∧ (d 11 = true → d 4 = true)) (StepA w.heap.size lb) ?stable ?start ?step ?fin
  case stable => exact fun i j v w w' hij _ hg hS => GoodA.stable i j v w w' hij hg hS
  case start => exact ⟨⟨⟨rfl, rfl, rfl⟩, Nat.le_refl _, fun _ _ _ _ => rfl, fun _ => hown, fun q hq => (hown.lt q hq).2, hlbl, fun _ => hlb, fun h => by simp at h⟩, fun h => by simp at h, fun h => by simp at h⟩
  case step =>
    have csrc : ∀ x {d}, JA B w.heap.size lb m (.slice lp m lcap) xs S E z an tg w d x → SrcIs x (.slice aa la ca) z := fun x d hx => by
      rcases hs with ⟨e, _⟩ | ⟨y, c, zs, e, hz, hl, hcc, hw⟩
      · exact absurd e hAn
      · refine .inr ⟨y, c, zs, e, hz, hl, fun j hj => ⟨Nat.lt_of_lt_of_le (hcc j hj).1 hx.2.1, ?_⟩, hw⟩
        have hyb : aa = some y := by simp at e; exact e.1
        obtain ⟨n1, n2⟩ := hsrc y hyb
        have hab : (y.add j).block = y.block := by unfold Addr.add; split <;> rfl
        rw [World.cell?_of_block (w := w) (by rw [hab]; exact hx.2.2.1 y.block (hcc j hj).1 n1 n2)]
        exact (hcc j hj).2
    have hmm : m ≤ 1000000 := by omega
    have hf : ∃ aa l c, Value.slice lp m lcap = .slice aa l c := ⟨_, _, _, rfl⟩
    have hBN : B ≤ w.heap.size := hB
    clear hc hs hown hlb
    intro i oo ho a x hold hlate hdep d hdi hdd hJ'
    obtain ⟨hJ, k1, k2⟩ := hJ'
    have c1 : i = 14 → d 11 = true := by
      rintro rfl
      obtain rfl := Option.some.inj ho
      exact hdd 11 (by kernel_rfl)
    have c2 : i = 11 → d 4 = true := by
      rintro rfl
      obtain rfl := Option.some.inj ho
      exact hdd 4 (by kernel_rfl)
    have hno4 : i = 4 → d 14 = false := by
      rintro rfl
      cases h14 : d 14 with
      | false => rfl
      | true => rw [k2 (k1 h14)] at hdi; cases hdi
    have hno11 : i = 11 → d 14 = false := by
      rintro rfl
      cases h14 : d 14 with
      | false => rfl
      | true => rw [k1 h14] at hdi; cases hdi
    refine Oper.wp_mono (fun a' w' hk => ?_) (K := fun a' w' => ∃ v, a' = a.put oo.dst v ∧ GoodA B w.heap.size lb m (.slice lp m lcap) xs S E (.slice aa la ca) z i v w' ∧ JA B w.heap.size lb m (.slice lp m lcap) xs S E z an tg w (fun j => d j || j == i) w' ∧ StepA w.heap.size lb i x w') ?_
    · obtain ⟨v, e, g, j, s⟩ := hk
      refine ⟨v, e, g, ⟨j, fun h => ?_, fun h => ?_⟩, s⟩
      · simp only [Bool.or_eq_true, beq_iff_eq] at h ⊢
        rcases h with h | h
        · exact .inl (k1 h)
        · exact .inl (c1 h.symm)
      · simp only [Bool.or_eq_true, beq_iff_eq] at h ⊢
        rcases h with h | h
        · exact .inl (k2 h)
        · exact .inl (c2 h.symm)
    clear k1 k2 c1 c2
    match i, ho with
    | 0, ho =>
      obtain rfl := Option.some.inj ho
      exact ad_0 rfl hJ (hold 0 (by kernel_rfl))
    | 1, ho =>
      obtain rfl := Option.some.inj ho
      exact ad_1 rfl hJ (hold 0 (by kernel_rfl))
    | 2, ho =>
      obtain rfl := Option.some.inj ho
      exact ad_2 rfl hJ (hdep 1 25 (by kernel_rfl) rfl)
    | 3, ho =>
      obtain rfl := Option.some.inj ho
      exact ad_3 rfl hJ (hdep 2 26 (by kernel_rfl) rfl)
    | 4, ho =>
      obtain rfl := Option.some.inj ho
      exact ad_4 rfl hJ (hdep 3 27 (by kernel_rfl) rfl) (hno4 rfl) hf
    | 5, ho =>
      obtain rfl := Option.some.inj ho
      exact ad_5 rfl hJ (hold 1 (by kernel_rfl))
    | 6, ho =>
      obtain rfl := Option.some.inj ho
      exact ad_6 rfl hJ (hold 2 (by kernel_rfl))
    | 7, ho =>
      obtain rfl := Option.some.inj ho
      exact ad_7 rfl hJ (hold 3 (by kernel_rfl))
    | 8, ho =>
      obtain rfl := Option.some.inj ho
      exact ad_8 rfl hJ (hdep 7 31 (by kernel_rfl) rfl) (csrc x hJ) hAn
    | 9, ho =>
      obtain rfl := Option.some.inj ho
      exact ad_9 rfl hJ (hdep 5 29 (by kernel_rfl) rfl) (hdep 6 30 (by kernel_rfl) rfl) (hdep 8 32 (by kernel_rfl) rfl)
    | 10, ho =>
      obtain rfl := Option.some.inj ho
      exact ad_10 rfl hJ (hdep 9 33 (by kernel_rfl) rfl)
    | 11, ho =>
      obtain rfl := Option.some.inj ho
      exact ad_11 rfl hJ (hdep 4 28 (by kernel_rfl) rfl) (hdep 10 34 (by kernel_rfl) rfl) hdi (hno11 rfl) hmm hBN
    | 12, ho =>
      obtain rfl := Option.some.inj ho
      exact ad_12 rfl hJ (hdep 0 24 (by kernel_rfl) rfl)
    | 13, ho =>
      obtain rfl := Option.some.inj ho
      exact ad_13 rfl hJ (hdep 12 36 (by kernel_rfl) rfl)
    | 14, ho =>
      obtain rfl := Option.some.inj ho
      exact ad_14 rfl hJ (hdep 13 37 (by kernel_rfl) rfl) (hdep 11 35 (by kernel_rfl) rfl) hdi (hdd 11 (by kernel_rfl))
    | q + 15, ho => simp at ho
  case fin =>
    intro f w3 d hgood hall hJ'
    obtain ⟨⟨g1, g2, g3, g4, g5, g6, g7, g8⟩, _, _⟩ := hJ'
    obtain ⟨v, r1, r2⟩ := g8 (hall 14 (by decide))
    simp only [dsts, List.filterMap_cons, List.filterMap_nil, List.foldl_cons, List.foldl_nil]
    go_wp2_with fail
    go_end0
    exact ⟨rfl, v, r1, r2, g1, g2, g3⟩

end Go.Proofs.Ybulkexpec
