/- LawS194105BWhole (function 3): the walk. -/
import Derived.Test.YbulkexoxcSearch
namespace Go.Proofs.Ybulkexoxc
open Go.RowKit Go.PK

theorem Yba.info27 : (Yba.prog.info? 27).map (fun i => (i.zero, i.size, i.bytes)) = some (some (.agg #[.string ByteArray.empty, .slice none 0 0, .slice none 0 0]), 3, 64) := by kernel_rfl

def ElemsAt (c : Nat → Nat) (n k : Nat) (arr : Array Value) : Prop :=
  arr.size = n * 3 ∧ (∀ e, e < n → arr[e * 3]? = some (.string ByteArray.empty) ∧ arr[e * 3 + 2]? = some (.slice none 0 0)) ∧ ∀ e, e < k → ∃ b : Nat, arr[e * 3 + 1]? = some (.slice (some ⟨b, 0, none⟩) (c e) (c e))

theorem ElemsAt.step {c : Nat → Nat} {n k b : Nat} {arr : Array Value} (h : ElemsAt c n k arr) (hk : k < n) :
    ElemsAt c n (k + 1) (((arr.setIfInBounds (k * 3) (.string ByteArray.empty)).setIfInBounds (k * 3 + 1) (.slice (some ⟨b, 0, none⟩) (c k) (c k))).setIfInBounds (k * 3 + 2) (.slice none 0 0)) := by
  obtain ⟨s1, s2, s3, s4, s5⟩ := set3 h.1 hk (.string ByteArray.empty) (.slice (some ⟨b, 0, none⟩) (c k) (c k)) (.slice none 0 0)
  have up : ∀ i, k * 3 + 2 < i → (((arr.setIfInBounds (k * 3) (.string ByteArray.empty)).setIfInBounds (k * 3 + 1) (.slice (some ⟨b, 0, none⟩) (c k) (c k))).setIfInBounds (k * 3 + 2) (.slice none 0 0))[i]? = arr[i]? := by
    intro i hi
    rw [Array.getElem?_setIfInBounds_ne (by omega), Array.getElem?_setIfInBounds_ne (by omega), Array.getElem?_setIfInBounds_ne (by omega)]
  refine ⟨s1, fun e he => ?_, fun e he => ?_⟩
  · by_cases hek : e = k
    · subst hek; exact ⟨s2, s4⟩
    · obtain ⟨h1, h2⟩ := h.2.1 e he
      by_cases hlt : e < k
      · exact ⟨by rw [s5 _ (by omega)]; exact h1, by rw [s5 _ (by omega)]; exact h2⟩
      · exact ⟨by rw [up _ (by omega)]; exact h1, by rw [up _ (by omega)]; exact h2⟩
  · by_cases hek : e = k
    · subst hek; exact ⟨b, s3⟩
    · obtain ⟨b', h1⟩ := h.2.2 e (by omega)
      exact ⟨b', by rw [s5 _ (by omega)]; exact h1⟩

theorem ElemsAt.zero (c : Nat → Nat) (n : Nat) : ElemsAt c n 0 (rep3 n (.string ByteArray.empty) (.slice none 0 0) (.slice none 0 0)) :=
  ⟨rep3_size _ _ _ _, fun e he => ⟨(rep3_get e he).1, (rep3_get e he).2.2⟩, fun e he => absurd he (by omega)⟩

theorem pow_wrap (t : Nat) (h : t ≤ 8) : IntKind.u64.wrap ((2 : Int) ^ t) = ((2 ^ t : Nat) : Int) := by
  have hb : 2 ^ t ≤ 2 ^ 8 := Nat.pow_le_pow_right (by omega) h
  have e : ((2 ^ t : Nat) : Int) = (2 : Int) ^ t := by simp
  rw [← e]
  generalize (2 ^ t : Nat) = m at *
  simp only [IntKind.wrap_u64]
  omega

theorem eq_rows {B B' g g' m cap cap' : Nat} {ys : List Nat} {x : World} (h1 : x.ownsRow B 3 1 (.slice (some ⟨g, 0, none⟩) m cap) m (ys.map fun y => Value.int .i64 (y : Nat)))
    (h2 : x.ownsRow B' 3 1 (.slice (some ⟨g', 0, none⟩) m cap') m (ys.map fun y => Value.int .i64 (y : Nat))) (hm : m ≤ 100000) :
    Calls Yba.prog 6 #[.slice (some ⟨g, 0, none⟩) m cap, .slice (some ⟨g', 0, none⟩) m cap'] x fun e w' => e = .returned (.bool true) ∧ Below x.heap.size x w' := by
  have hl : ys.length = m := by have := h1.1; simpa using this
  have hcell : ∀ {B g cap : Nat}, x.ownsRow B 3 1 (.slice (some ⟨g, 0, none⟩) m cap) m (ys.map fun y => Value.int .i64 (y : Nat)) → ∀ j, j < (ys.map fun y : Nat => (y : Int)).length → x.cell? ⟨g, 0 + j, none⟩ = some (.int .i64 ((ys.map fun y : Nat => (y : Int)).getD j 0)) := by
    intro B g cap h j hj
    have hj' : j < ys.length := by simpa using hj
    rw [Nat.zero_add, h.cellAt j (by omega)]
    simp [List.getD, hj']
  refine (Yba.slices_Equal_int g 0 m cap g' 0 m cap' (ys.map fun y : Nat => (y : Int)) (ys.map fun y : Nat => (y : Int)) x (by simp [hl]) (by simp [hl]) (by omega) (by omega) (hcell h1) (hcell h2)).mono fun e w' h => ?_
  obtain ⟨rfl, q, rfl⟩ := h
  exact ⟨by simp, below_drewN (Below.refl _ _) q⟩

theorem half_step (y : Nat) (h0 : 0 < y) (h : y ≤ 100000) : Lib.bitLen y = 1 + Lib.bitLen (y / 2) := Lib.bitLen_half y (by omega) (by omega)

def stateAt (arr : Array Value) (e : Nat) : Option Addr :=
  match arr[e * 3 + 1]? with
  | some (.slice a _ _) => a
  | _ => none

theorem ElemsAt.cells {c : Nat → Nat} {n eb : Nat} {arr : Array Value} (h : ElemsAt c n n arr) {x : World} (hb : x.heap[eb]? = some (.cells arr 27)) :
    (∀ e, e < n → x.cell? ⟨eb, e * 3, none⟩ = some (.string ByteArray.empty)) ∧ (∀ e, e < n → x.cell? ⟨eb, e * 3 + 1, none⟩ = some (.slice (stateAt arr e) (c e) (c e))) ∧
      ∀ e, e < n → x.cell? ⟨eb, e * 3 + 2, none⟩ = some (.slice none 0 0) := by
  refine ⟨fun e he => ?_, fun e he => ?_, fun e he => ?_⟩
  · rw [cell_of_row x eb _ _ 27 _ hb]; exact (h.2.1 e he).1
  · obtain ⟨b, hbb⟩ := h.2.2 e he
    rw [cell_of_row x eb _ _ 27 _ hb, hbb]
    simp [stateAt, hbb]
  · rw [cell_of_row x eb _ _ 27 _ hb]; exact (h.2.1 e he).2

theorem srch_cells {x : World} {sb mb n wd : Nat} {L0 L2 s1 s2 s3 s4 s5 s6 : Value} (h : x.heap[sb]? = some (.cells (srch mb n wd L0 L2 s1 s2 s3 s4 s5 s6) 52)) (j : Nat) :
    x.cell? ⟨sb, j, none⟩ = (srch mb n wd L0 L2 s1 s2 s3 s4 s5 s6)[j]? := cell_of_row x sb j _ 52 _ h

set_option maxHeartbeats 1000000 in
set_option maxRecDepth 100000 in
theorem lawB_big (a0 : Option Addr) (n cap0 : Nat) (w : World) (h : 65536 < n) (hm : n ≤ maxLen) :
    Calls Yba.prog 3 #[.slice a0 n cap0] w fun e w' => e = .returned (.bool true) ∧ Below w.heap.size w w' := by
  unfold maxLen at hm
  go_enter Yba.func3, Yba.ntmps3
  go_wp2
  go_ret
  exact ⟨rfl, Below.refl _ _⟩

set_option maxHeartbeats 4000000 in
set_option maxRecDepth 100000 in
theorem lawB_small (a0 : Option Addr) (n cap0 : Nat) (c : Nat → Nat) (w : World) (h1 : n ≤ 65536) (hc : ∀ e, c e ≤ 255)
    (hcell : ∀ k, k < n → ∃ b o, a0 = some ⟨b, o, none⟩ ∧ b < w.heap.size ∧ w.cell? ⟨b, o + k, none⟩ = some (.int .u8 (c k : Nat))) :
    Calls Yba.prog 3 #[.slice a0 n cap0] w fun e w' => e = .returned (.bool true) ∧ Below w.heap.size w w' := by
  have hpn : ∀ w a, (binOp .neq 28 (.pointer (some a)) (.pointer (some a))).run Yba.prog w = .ok (.bool false) w := run_neq_ptr_same (P := Yba.prog) (tp := 28) (te := 34) (j := 7) Yba.underlying28 (by kernel_rfl)
  have n31 := fun w a m c => run_neq_slice_nil_any (P := Yba.prog) w 31 _ a m c 0 0 Yba.underlying31
  have n29 := fun w a m c => run_neq_slice_nil_any (P := Yba.prog) w 29 _ a m c 0 0 Yba.underlying29
  have n30 := fun w a m c => run_neq_slice_nil_any (P := Yba.prog) w 30 _ a m c 0 0 Yba.underlying30
  have n25 := fun w a m c => run_neq_slice_nil_any (P := Yba.prog) w 25 _ a m c 0 0 Yba.underlying25
  have n40 := fun w a m c => run_neq_slice_nil_any (P := Yba.prog) w 40 _ a m c 0 0 Yba.underlying40
  have n44 := fun w a m c => run_neq_slice_nil_any (P := Yba.prog) w 44 _ a m c 0 0 Yba.underlying44
  have hmk : ∀ w, (Instr.makeSlice 23 (.int .i64 (n : Int)) (.int .i64 (n : Int))).run Yba.prog w = .ok (.slice (some ⟨w.heap.size, 0, none⟩) n n) (w.alloc (.cells (rep3 n (.string ByteArray.empty) (.slice none 0 0) (.slice none 0 0)) 27)) := fun w => make_any (t := 23) (e := 27) Yba.underlying23 Yba.info27 n (by omega) (by omega) w
  have Hcell : Hid (∀ k, k < n → ∃ b o, a0 = some ⟨b, o, none⟩ ∧ b < w.heap.size ∧ w.cell? ⟨b, o + k, none⟩ = some (.int .u8 (c k : Nat))) := hcell
  clear hcell
  go_enter Yba.func3, Yba.ntmps3
  go_wp2
  go_loopw [35] (fun i wr => ∃ k : Nat, k ≤ n ∧ i = .int .i64 k ∧ Below w.heap.size w wr ∧ ∃ arr, wr.heap[w.heap.size]? = some (.cells arr 27) ∧ ElemsAt c n k arr) (fun i _ => n - (intOf i).toNat)
  case atStart =>
    exact ⟨0, by omega, rfl, (Below.refl _ _).alloc (Nat.le_refl _) _, _, blk_new _ _, ElemsAt.zero c n⟩
  case round =>
    obtain ⟨k, hk, rfl, hbel, arr, harr, hea⟩ := hrel
    by_cases hlt : k < n
    · obtain ⟨b, o, ha, hb, hck⟩ := Hcell.out k hlt
      subst ha
      have hcw : wr.cell? ⟨b, o + k, none⟩ = some (.int .u8 (c k : Nat)) := by rw [hbel.cell (p := ⟨b, o + k, none⟩) hb]; exact hck
      have hcc := hc k
      have hms := make_one (P := Yba.prog) (t := 24) (e := 9) Yba.underlying24 Yba.info9 rfl (c k) (by omega) (by omega)
      obtain ⟨v0, f0⟩ := cell_ex (i := k * 3) harr (by rw [hea.1]; omega)
      obtain ⟨v1, f1⟩ := cell_ex (i := k * 3 + 1) harr (by rw [hea.1]; omega)
      obtain ⟨v2, f2⟩ := cell_ex (i := k * 3 + 2) harr (by rw [hea.1]; omega)
      have ff := fun j => frozen_of_row wr w.heap.size j _ 27 harr
      have hsz := blk_lt harr
      generalize hcq : c k = cc at *
      have Hcq : Hid (c k = cc) := hcq
      clear hcq
      go_wp2
      have hq := Hcq.out
      subst hq
      refine ⟨⟨k + 1, by omega, by go_num, (((hbel.setCell (by simp) _).setCell (by simp) _).setCell (by simp) _).alloc (by simp; omega) _, _, ?_, hea.step (b := wr.heap.size) hlt⟩, by simp [intOf]; omega⟩
      exact blk_alloc (blk_same (blk_same (blk_same harr (k * 3) _) (k * 3 + 1) _) (k * 3 + 2) _) _
    · obtain rfl : n = k := by omega
      go_wp2_with fail
      have M0 := blk_new wr (Obj.cells #[Value.slice (some ⟨w.heap.size, 0, none⟩) n n, Value.slice none 0 0, Value.slice none 0 0, Value.slice none 0 0, Value.bool false, Value.slice none 0 0, Value.map none] 34)
      have E0 := blk_alloc harr (Obj.cells #[Value.slice (some ⟨w.heap.size, 0, none⟩) n n, Value.slice none 0 0, Value.slice none 0 0, Value.slice none 0 0, Value.bool false, Value.slice none 0 0, Value.map none] 34)
      obtain ⟨he0, he1, he2⟩ := hea.cells E0
      refine (search_any wr.heap.size w.heap.size n c (stateAt arr) _ h1 (blk_lt M0) (blk_lt E0) (by rw [cell_of_row _ _ _ _ _ _ M0]; rfl) (by rw [cell_of_row _ _ _ _ _ _ M0]; rfl) he0 he1 he2 hc).mono ?_
      rintro e w2 ⟨v, L0, L2, fb, g, cap, farr, rfl, rfl, rfl, hsp, hfb, hfr, hfa, hown, hbel2⟩
      obtain ⟨sb, s1, s2, s3, s4, s5, s6, rfl, hsb, hsm, r1, r2, r3, r4, r5, r6⟩ := hsp
      obtain ⟨b1, rfl, hb1, hr1⟩ := r1
      obtain ⟨b2, rfl, hb2, hr2⟩ := r2
      obtain ⟨b3, rfl, hb3, hr3⟩ := r3
      obtain ⟨b4, rfl, hb4, hr4⟩ := r4
      obtain ⟨b5, rfl⟩ := r5
      obtain ⟨b6, rfl⟩ := r6
      have hinv := Pl.st_inv c hc n
      generalize hwd : (Pl.st c n).words = wd at *
      have Hwd : Hid ((Pl.st c n).words = wd) := hwd
      clear hwd
      have M2 := blk_below M0 hbel2 (blk_lt M0)
      have E2 := blk_below E0 hbel2 (blk_lt E0)
      have m0 : w2.cell? ⟨wr.heap.size, 0, none⟩ = some (.slice (some ⟨w.heap.size, 0, none⟩) n n) := by rw [cell_of_row _ _ _ _ _ _ M2]; rfl
      have m1 : w2.cell? ⟨wr.heap.size, 1, none⟩ = some (.slice none 0 0) := by rw [cell_of_row _ _ _ _ _ _ M2]; rfl
      have m2 : w2.cell? ⟨wr.heap.size, 2, none⟩ = some (.slice none 0 0) := by rw [cell_of_row _ _ _ _ _ _ M2]; rfl
      have m3 : w2.cell? ⟨wr.heap.size, 3, none⟩ = some (.slice none 0 0) := by rw [cell_of_row _ _ _ _ _ _ M2]; rfl
      have c0 : w2.cell? ⟨sb, 0, none⟩ = _ := srch_cells hsm 0
      simp only [srch, List.getElem?_toArray, List.getElem?_cons_zero] at c0
      clear he0 he1 he2
      have Hb2 : Below w.heap.size w w2 := (hbel.alloc hbel.size _).trans (hbel2.mono (Nat.le_trans hbel.size (by simp)))
      obtain ⟨e0, e1, e2⟩ := hea.cells E2
      have HE1 : Hid (∀ e, e < n → w2.cell? ⟨w.heap.size, e * 3 + 1, none⟩ = some (.slice (stateAt arr e) (c e) (c e))) := e1
      have HE2 : Hid (∀ e, e < n → w2.cell? ⟨w.heap.size, e * 3 + 2, none⟩ = some (.slice none 0 0)) := e2
      have HFA : Hid (FieldsAt c n n farr) := hfa
      clear e0 e1 e2 hfa hea harr hmk M0 E0 E2 M2
      generalize wr.heap.size = mb at *
      go_wp2_with fail
      go_loop [93] (fun i => ∃ j : Nat, j ≤ n ∧ i = .int .i64 j) (fun i => n - (intOf i).toNat)
      case atStart => exact ⟨0, by omega, rfl⟩
      case round =>
        obtain ⟨j, hj, rfl⟩ := hrel
        by_cases hlt2 : j < n
        · obtain ⟨b, o, ha, hb, hck⟩ := Hcell.out j hlt2
          subst ha
          have hcw : w2.cell? ⟨b, o + j, none⟩ = some (.int .u8 (c j : Nat)) := by rw [Hb2.cell (p := ⟨b, o + j, none⟩) hb]; exact hck
          have hcc := hc j
          have x1 := HE1.out j hlt2
          have x2 := HE2.out j hlt2
          go_wp2
          exact ⟨⟨j + 1, by omega, by go_num⟩, by simp [intOf]; omega⟩
        · obtain rfl : n = j := by omega
          have c1 : w2.cell? ⟨sb, 1, none⟩ = _ := srch_cells hsm 1
          simp [srch] at c1
          go_wp2_with fail
          go_loopw [11, 12, 13, 133] (fun wv uv sv i wr => ∃ q : Nat, q ≤ n ∧ i = .int .i64 q ∧ wv = .int .i64 ((Pl.st c q).words : Nat) ∧ uv = .int .u64 ((Pl.st c q).used : Nat) ∧ Below w2.heap.size w2 wr ∧
            wr.ownsRow w2.heap.size 3 1 sv (Pl.st c q).words ((Pl.st c q).starts.map fun x => Value.int .i64 (x : Nat))) (fun _ _ _ i _ => n - (intOf i).toNat)
          case atStart =>
            refine ⟨0, by omega, rfl, rfl, rfl, (Below.refl _ _).alloc (Nat.le_refl _) _, ?_⟩
            exact own_mk (cur := #[Value.int .i64 0]) (blk_at rfl) (Nat.le_refl _) (Nat.le_refl _) (by simp [maxLen]) (by simp)
          case round =>
            obtain ⟨q, hq, rfl, rfl, rfl, hbelr, hownr⟩ := hrel
            by_cases hlt3 : q < n
            · obtain ⟨b, o, ha, hb, hck⟩ := Hcell.out q hlt3
              subst ha
              have hcw : wr.cell? ⟨b, o + q, none⟩ = some (.int .u8 (c q : Nat)) := by rw [hbelr.cell (p := ⟨b, o + q, none⟩) (Nat.lt_of_lt_of_le hb Hb2.size), Hb2.cell (p := ⟨b, o + q, none⟩) hb]; exact hck
              have hcc := hc q
              have hinv3 := Pl.st_inv c hc q
              generalize hst : Pl.st c q = S at *
              have Hst : Hid (Pl.st c q = S) := hst
              clear hst
              obtain ⟨wd3, us3, ss3⟩ := S
              simp only at hinv3 hownr ⊢
              generalize hcq : c q = cc at *
              have Hcq : Hid (c q = cc) := hcq
              clear hcq
              obtain ⟨g3, cap3, rfl⟩ := Joins.ownsRow_form hownr (by omega)
              have HR : Hid (∀ x, Below w2.heap.size w2 x → x.cell? ⟨sb, 1, none⟩ = some (.slice (some ⟨fb, 0, none⟩) n n) ∧ x.cell? ⟨fb, q * 3, none⟩ = some (.int .i64 ((Pl.st c (q + 1)).words - 1 : Nat)) ∧ x.cell? ⟨fb, q * 3 + 1, none⟩ = some (.int .u64 ((Pl.st c (q + 1)).used - Pl.width (c q) : Nat)) ∧ x.cell? ⟨fb, q * 3 + 2, none⟩ = some (.int .u64 (maskI (Pl.width (c q))))) := by
                intro x hx
                obtain ⟨y1, y2, y3⟩ := HFA.out.2 q hlt3
                have hxf := blk_below hfr hx (blk_lt hfr)
                refine ⟨by rw [hx.cell (p := ⟨sb, 1, none⟩) (blk_lt hsm)]; exact c1, ?_, ?_, ?_⟩
                · rw [cell_of_row x fb _ _ 55 _ hxf]; exact y1
                · rw [cell_of_row x fb _ _ 55 _ hxf]; exact y2
                · rw [cell_of_row x fb _ _ 55 _ hxf]; exact y3
              by_cases hz : cc = 0
              · subst hz
                have HW : Hid (Pl.width 0 = 64) := rfl
                by_cases hov : 64 < us3 + 64
                · have hov' : (64 : Int) < (us3 : Int) + 64 := by omega
                  have Hov : Pl.st c (q + 1) = ⟨wd3 + 1, 64, ss3 ++ [q]⟩ := by
                    have := Pl.st_over (c := c) (k := q) (by rw [Hst.out, Hcq.out, HW.out]; exact hov)
                    rw [this, Hst.out, Hcq.out, HW.out]
                  have HV : Hid (Pl.st c (q + 1) = ⟨wd3 + 1, 64, ss3 ++ [q]⟩) := Hov
                  clear Hov
                  go_wp2_with (at_builtin; refine wpList_app1 _ rfl _ _ 29 rfl w2.heap.size 3 (.int .i64 0) 8 Yba.underlying29 Yba.info3 rfl _ wd3 (ss3.map fun x => Value.int .i64 (x : Nat)) rfl ?hown _ _ (.int .i64 (q : Nat)) rfl ?hcell ?hone ?h63 ?hbytes ?hbase ?hK)
                  case hown => exact hownr.alloc _
                  case hcell => exact World.cell?_alloc_at _ _ _ _ (by simp)
                  case hone => rfl
                  case h63 => simp [maxLen]; omega
                  case hbytes => omega
                  case hbase => have := hbelr.size; first | omega | (simp only [World.size_alloc]; omega)
                  case hK =>
                    intro g' cap' w1 hown1 hgrow
                    have hbel1 : Below w2.heap.size w2 w1 := (hbelr.alloc hbelr.size _).grown hgrow (by have := hbelr.size; simp only [World.size_alloc]; omega) (by intro k' hk'; simp [Value.ownBlock] at hk'; have := (own_blk hownr).choose_spec.2.1; omega)
                    obtain ⟨d1, d2, d3, d4⟩ := HR.out w1 hbel1
                    rw [HV.out] at d2 d3
                    rw [Hcq.out, HW.out] at d3 d4
                    simp only [Nat.add_sub_cancel, Nat.sub_self, maskI] at d2 d3 d4
                    rw [show IntKind.u64.wrap (IntKind.u64.wrap ((2 : Int) ^ 64) - 1) = 18446744073709551615 by decide] at d4
                    clear hgrow hownr
                    go_wp2
                    refine ⟨⟨q + 1, by omega, by go_num, by rw [HV.out]; try go_num, by rw [HV.out]; try go_num, hbel1, ?_⟩, by simp [intOf]; omega⟩
                    rw [HV.out]
                    simp only [List.map_append, List.map_cons, List.map_nil]
                    exact hown1
                · have hov' : (us3 : Int) + 64 ≤ 64 := by omega
                  have Hov : Pl.st c (q + 1) = ⟨wd3, us3 + 64, ss3⟩ := by
                    have := Pl.st_fits (c := c) (k := q) (by rw [Hst.out, Hcq.out, HW.out]; exact hov)
                    rw [this, Hst.out, Hcq.out, HW.out]
                  have HV : Hid (Pl.st c (q + 1) = ⟨wd3, us3 + 64, ss3⟩) := Hov
                  clear Hov
                  obtain ⟨d1, d2, d3, d4⟩ := HR.out wr hbelr
                  rw [HV.out] at d2 d3
                  rw [Hcq.out, HW.out] at d3 d4
                  simp only [Nat.add_sub_cancel, maskI] at d2 d3 d4
                  rw [show ((wd3 - 1 : Nat) : Int) = (wd3 : Int) - 1 by omega] at d2
                  rw [show IntKind.u64.wrap (IntKind.u64.wrap ((2 : Int) ^ 64) - 1) = 18446744073709551615 by decide] at d4
                  go_wp2
                  refine ⟨⟨q + 1, by omega, by go_num, by rw [HV.out], by rw [HV.out]; try go_num, hbelr, ?_⟩, by simp [intOf]; omega⟩
                  rw [HV.out]
                  exact hownr
              · have hz' : ((cc : Int) == 0) = false := by rw [beq_eq_false_iff_ne]; omega
                have hw8 := Pl.width_pos cc hz hcc
                generalize hWq : Pl.width cc = W at *
                have HW : Hid (Pl.width cc = W) := hWq
                clear hWq
                obtain ⟨hw1, hw2, hw3⟩ := hw8
                have HW3 : Hid (∀ q, q < W → 2 ^ q < cc) := hw3
                have HW2 : Hid (cc ≤ 2 ^ W) := hw2
                clear hw2 hw3
                go_wp2_with fail
                go_loop [16] (fun u => ∃ t : Nat, t ≤ W ∧ u = .int .u64 t) (fun u => W - (intOf u).toNat)
                case atStart => exact ⟨0, by omega, rfl⟩
                case round =>
                  obtain ⟨t, ht, rfl⟩ := hrel
                  by_cases ht2 : t < W
                  · have hp : IntKind.u64.wrap ((2 : Int) ^ t) < (cc : Int) := by rw [pow_wrap t (by omega)]; have := HW3.out t ht2; exact_mod_cast this
                    go_wp2_with fail
                    exact ⟨⟨t + 1, by omega, by go_num⟩, by simp [intOf]; omega⟩
                  · obtain rfl : W = t := by omega
                    have hp : (cc : Int) ≤ IntKind.u64.wrap ((2 : Int) ^ W) := by rw [pow_wrap W (by omega)]; have := HW2.out; exact_mod_cast this
                    have h64 : ((W : Int) == 64) = false := by rw [beq_eq_false_iff_ne]; omega
                    by_cases hov : 64 < us3 + W
                    · have hov' : (64 : Int) < (us3 : Int) + (W : Int) := by omega
                      have Hov : Pl.st c (q + 1) = ⟨wd3 + 1, W, ss3 ++ [q]⟩ := by
                        have := Pl.st_over (c := c) (k := q) (by rw [Hst.out, Hcq.out, HW.out]; exact hov)
                        rw [this, Hst.out, Hcq.out, HW.out]
                      have HV : Hid (Pl.st c (q + 1) = ⟨wd3 + 1, W, ss3 ++ [q]⟩) := Hov
                      clear Hov
                      go_wp2_with (at_builtin; refine wpList_app1 _ rfl _ _ 29 rfl w2.heap.size 3 (.int .i64 0) 8 Yba.underlying29 Yba.info3 rfl _ wd3 (ss3.map fun x => Value.int .i64 (x : Nat)) rfl ?hown _ _ (.int .i64 (q : Nat)) rfl ?hcell ?hone ?h63 ?hbytes ?hbase ?hK)
                      case hown => exact hownr.alloc _
                      case hone => rfl
                      case h63 => simp [maxLen]; omega
                      case hbytes => omega
                      case hbase => have := hbelr.size; first | omega | (simp only [World.size_alloc]; omega)
                      case hK =>
                        intro g' cap' w1 hown1 hgrow
                        have hbel1 : Below w2.heap.size w2 w1 := (hbelr.alloc hbelr.size _).grown hgrow (by have := hbelr.size; simp only [World.size_alloc]; omega) (by intro k' hk'; simp [Value.ownBlock] at hk'; have := (own_blk hownr).choose_spec.2.1; omega)
                        obtain ⟨d1, d2, d3, d4⟩ := HR.out w1 hbel1
                        rw [HV.out] at d2 d3
                        rw [Hcq.out, HW.out] at d3 d4
                        simp only [Nat.add_sub_cancel, Nat.sub_self, maskI] at d2 d3 d4
                        skip
                        clear hgrow hownr
                        go_wp2
                        refine ⟨⟨q + 1, by omega, by go_num, by rw [HV.out]; try go_num, by rw [HV.out]; try go_num, hbel1, ?_⟩, by simp [intOf]; omega⟩
                        rw [HV.out]
                        simp only [List.map_append, List.map_cons, List.map_nil]
                        exact hown1
                    · have hov' : (us3 : Int) + (W : Int) ≤ 64 := by omega
                      have Hov : Pl.st c (q + 1) = ⟨wd3, us3 + W, ss3⟩ := by
                        have := Pl.st_fits (c := c) (k := q) (by rw [Hst.out, Hcq.out, HW.out]; exact hov)
                        rw [this, Hst.out, Hcq.out, HW.out]
                      have HV : Hid (Pl.st c (q + 1) = ⟨wd3, us3 + W, ss3⟩) := Hov
                      clear Hov
                      obtain ⟨d1, d2, d3, d4⟩ := HR.out wr hbelr
                      rw [HV.out] at d2 d3
                      rw [Hcq.out, HW.out] at d3 d4
                      simp only [Nat.add_sub_cancel, maskI] at d2 d3 d4
                      rw [show ((wd3 - 1 : Nat) : Int) = (wd3 : Int) - 1 by omega] at d2
                      skip
                      go_wp2
                      refine ⟨⟨q + 1, by omega, by go_num, by rw [HV.out], by rw [HV.out]; try go_num, hbelr, ?_⟩, by simp [intOf]; omega⟩
                      rw [HV.out]
                      exact hownr
            · obtain rfl : n = q := by omega
              rw [Hwd.out] at hownr
              have hinvn := hinv
              obtain ⟨g3, cap3, rfl⟩ := Joins.ownsRow_form hownr (by omega)
              rw [Hwd.out]
              go_wp2_with (at_builtin; refine wpList_app1 _ rfl _ _ 29 rfl w2.heap.size 3 (.int .i64 0) 8 Yba.underlying29 Yba.info3 rfl _ wd ((Pl.st c n).starts.map fun x => Value.int .i64 (x : Nat)) rfl ?hownT _ _ (.int .i64 (n : Nat)) rfl ?hcellT ?honeT ?h63T ?hbytesT ?hbaseT ?hKT)
              case hownT => exact hownr.alloc _
              case hcellT => exact World.cell?_alloc_at _ _ _ _ (by simp)
              case honeT => rfl
              case h63T => simp [maxLen]; omega
              case hbytesT => omega
              case hbaseT => have := hbelr.size; first | omega | (simp only [World.size_alloc]; omega)
              case hKT =>
                intro g' cap' w3 hown3 hgrow
                have hbel3 : Below w2.heap.size w2 w3 := (hbelr.alloc hbelr.size _).grown hgrow (by have := hbelr.size; simp only [World.size_alloc]; omega) (by intro k' hk'; simp [Value.ownBlock] at hk'; have := (own_blk hownr).choose_spec.2.1; omega)
                clear hgrow hownr hbelr
                have hs3 := blk_below hsm hbel3 (blk_lt hsm)
                have d2 : w3.cell? ⟨sb, 2, none⟩ = some (.int .i64 (wd : Int)) := srch_cells hs3 2
                have d3 : w3.cell? ⟨sb, 3, none⟩ = some (.slice (some ⟨g, 0, none⟩) (wd + 1) cap) := srch_cells hs3 3
                have ho3 : w3.ownsRow _ 3 1 (.slice (some ⟨g, 0, none⟩) (wd + 1) cap) (wd + 1) (((Pl.st c n).starts ++ [n]).map fun x => Value.int .i64 (x : Nat)) := own_keep hown fun o ho => blk_below ho hbel3 (blk_lt ho)
                go_wp2_with fail
                refine (eq_rows ho3 (by simpa only [List.map_append, List.map_cons, List.map_nil] using hown3) (by omega)).mono ?_
                rintro e w4 ⟨rfl, hb4⟩
                have hb24 : Below w2.heap.size w2 w4 := hbel3.trans (hb4.mono hbel3.size)
                have hs4 := blk_below hsm hb24 (blk_lt hsm)
                have z4 : w4.cell? ⟨sb, 4, none⟩ = some (.slice none 0 0) := srch_cells hs4 4
                have z5 : w4.cell? ⟨sb, 5, none⟩ = some (.int .i64 1) := srch_cells hs4 5
                have z6 : w4.cell? ⟨sb, 6, none⟩ = some (.int .u64 16) := srch_cells hs4 6
                have z7 : w4.cell? ⟨sb, 7, none⟩ = some (.int .i64 0) := srch_cells hs4 7
                clear d2 d3 ho3 hown3 hs3 hown
                go_wp2_with fail
                go_loop [18, 19] (fun bv vv => ∃ t y : Nat, bv = .int .i64 t ∧ vv = .int .i64 y ∧ t + Lib.bitLen y = Lib.bitLen (wd - 1) ∧ y ≤ 65536 ∧ t ≤ 64) (fun _ vv => (intOf vv).toNat)
                case atStart =>
                  refine ⟨0, wd - 1, rfl, by go_num, by omega, by omega, by omega⟩
                case round =>
                  obtain ⟨t, y, rfl, rfl, hty, hy, ht⟩ := hrel
                  have Hty : Hid (t + Lib.bitLen y = Lib.bitLen (wd - 1)) := hty
                  clear hty
                  by_cases hy0 : 0 < y
                  · have hst := half_step y hy0 (by omega)
                    have Hst2 : Hid (Lib.bitLen y = 1 + Lib.bitLen (y / 2)) := hst
                    clear hst
                    have hbl := bitLen_le (wd - 1)
                    have HBL : Hid (Lib.bitLen (wd - 1) ≤ 64) := hbl
                    clear hbl
                    go_wp2_with fail
                    refine ⟨⟨t + 1, y / 2, by go_num, by go_num, ?_, by omega, ?_⟩, by simp [intOf]; omega⟩
                    · have h1 := Hst2.out; have h2 := Hty.out; omega
                    · have h1 := Hst2.out; have h2 := Hty.out; have h3 := HBL.out; omega
                  · obtain rfl : y = 0 := by omega
                    have htb : Lib.bitLen (wd - 1) = t := by have h2 := Hty.out; have h0 : Lib.bitLen 0 = 0 := rfl; omega
                    have hcs : colShift wd = max 0 (16 - (t : Int)) := by unfold colShift; rw [htb]
                    have z8 : w4.cell? ⟨sb, 8, none⟩ = some (.slice none 0 0) := srch_cells hs4 8
                    have z9 : w4.cell? ⟨sb, 9, none⟩ = some (.int .i64 (wd : Int)) := srch_cells hs4 9
                    have z10 : w4.cell? ⟨sb, 10, none⟩ = some (.int .u64 (colShift wd)) := srch_cells hs4 10
                    have z11 : w4.cell? ⟨sb, 11, none⟩ = some (.int .i64 0) := srch_cells hs4 11
                    have z12 : w4.cell? ⟨sb, 12, none⟩ = some (.slice (some ⟨b1, 0, none⟩) wd wd) := srch_cells hs4 12
                    have z13 : w4.cell? ⟨sb, 13, none⟩ = some (.slice (some ⟨b2, 0, none⟩) n n) := srch_cells hs4 13
                    have z14 : w4.cell? ⟨sb, 14, none⟩ = some (.slice (some ⟨b3, 0, none⟩) 16 16) := srch_cells hs4 14
                    have z15 : w4.cell? ⟨sb, 15, none⟩ = some (.int .i64 (64 * (n : Int))) := srch_cells hs4 15
                    have z16 : w4.cell? ⟨sb, 16, none⟩ = some (.slice (some ⟨b4, 0, none⟩) n n) := srch_cells hs4 16
                    have z17 : w4.cell? ⟨sb, 17, none⟩ = some (.slice (some ⟨b5, 0, none⟩) 0 0) := srch_cells hs4 17
                    have z18 : w4.cell? ⟨sb, 18, none⟩ = some (.slice (some ⟨b6, 0, none⟩) 0 0) := srch_cells hs4 18
                    have z19 : w4.cell? ⟨sb, 19, none⟩ = some (.int .i64 0) := srch_cells hs4 19
                    have HR1 : Hid (∀ i, i < wd → w4.cell? ⟨b1, i, none⟩ = some (.int .u64 0)) := fun i hi => by rw [cell_of_row _ _ _ _ _ _ (blk_below hr1 hb24 (blk_lt hr1))]; exact rep_get _ _ _ hi
                    have HR2 : Hid (∀ i, i < n → w4.cell? ⟨b2, i, none⟩ = some (.int .i64 0)) := fun i hi => by rw [cell_of_row _ _ _ _ _ _ (blk_below hr2 hb24 (blk_lt hr2))]; exact rep_get _ _ _ hi
                    have HR3 : Hid (∀ i, i < 16 → w4.cell? ⟨b3, i, none⟩ = some (.int .i32 0)) := fun i hi => by rw [cell_of_row _ _ _ _ _ _ (blk_below hr3 hb24 (blk_lt hr3))]; exact rep_get _ _ _ hi
                    have HR4 : Hid (∀ i, i < n → w4.cell? ⟨b4, i, none⟩ = some (.slice none 0 0)) := fun i hi => by rw [cell_of_row _ _ _ _ _ _ (blk_below hr4 hb24 (blk_lt hr4))]; exact rep_get _ _ _ hi
                    have hfin : Below w.heap.size w w4 := Hb2.trans (hb24.mono Hb2.size)
                    clear z4 z5 z6 z7 htb hs4 hb4 hbel3 hb24 hr1 hr2 hr3 hr4 hsm hfr c0 c1 m0 m1 m2 m3 Hb2 hbel hbel2
                    by_cases h16 : t ≤ 16
                    · rw [hcs, show max 0 (16 - (t : Int)) = 16 - (t : Int) by omega] at z10
                      clear hcs
                      go_wp2_with fail
                      go_loop [288] (fun i => ∃ p : Nat, p ≤ wd ∧ i = .int .i64 p) (fun i => wd - (intOf i).toNat)
                      case atStart => exact ⟨0, by omega, rfl⟩
                      case round =>
                        obtain ⟨p, hp, rfl⟩ := hrel
                        by_cases hpl : p < wd
                        · have x1 := HR1.out p hpl
                          go_wp2_with fail
                          exact ⟨⟨p + 1, by omega, by go_num⟩, by simp [intOf]; omega⟩
                        · go_wp2_with fail
                          go_loop [23] (fun i => ∃ p : Nat, p ≤ n ∧ i = .int .i64 p) (fun i => n - (intOf i).toNat)
                          case atStart => exact ⟨0, by omega, rfl⟩
                          case round =>
                            obtain ⟨p2, hp2, rfl⟩ := hrel
                            by_cases hpl2 : p2 < n
                            · have x1 := HR2.out p2 hpl2
                              have x2 := HR4.out p2 hpl2
                              go_wp2_with fail
                              exact ⟨⟨p2 + 1, by omega, by go_num⟩, by simp [intOf]; omega⟩
                            · go_wp2_with fail
                              go_loop [345] (fun i => ∃ p : Nat, p ≤ 16 ∧ i = .int .i64 p) (fun i => 16 - (intOf i).toNat)
                              case atStart => exact ⟨0, by omega, rfl⟩
                              case round =>
                                obtain ⟨p3, hp3, rfl⟩ := hrel
                                by_cases hpl3 : p3 < 16
                                · have x1 := HR3.out p3 hpl3
                                  go_wp2_with fail
                                  exact ⟨⟨p3 + 1, by omega, by go_num⟩, by simp [intOf]; omega⟩
                                · go_wp2_with fail
                                  go_ret
                                  exact ⟨rfl, hfin⟩
                    · rw [hcs, show max 0 (16 - (t : Int)) = 0 by omega] at z10
                      clear hcs
                      go_wp2_with fail
                      go_loop [288] (fun i => ∃ p : Nat, p ≤ wd ∧ i = .int .i64 p) (fun i => wd - (intOf i).toNat)
                      case atStart => exact ⟨0, by omega, rfl⟩
                      case round =>
                        obtain ⟨p, hp, rfl⟩ := hrel
                        by_cases hpl : p < wd
                        · have x1 := HR1.out p hpl
                          go_wp2_with fail
                          exact ⟨⟨p + 1, by omega, by go_num⟩, by simp [intOf]; omega⟩
                        · go_wp2_with fail
                          go_loop [23] (fun i => ∃ p : Nat, p ≤ n ∧ i = .int .i64 p) (fun i => n - (intOf i).toNat)
                          case atStart => exact ⟨0, by omega, rfl⟩
                          case round =>
                            obtain ⟨p2, hp2, rfl⟩ := hrel
                            by_cases hpl2 : p2 < n
                            · have x1 := HR2.out p2 hpl2
                              have x2 := HR4.out p2 hpl2
                              go_wp2_with fail
                              exact ⟨⟨p2 + 1, by omega, by go_num⟩, by simp [intOf]; omega⟩
                            · go_wp2_with fail
                              go_loop [345] (fun i => ∃ p : Nat, p ≤ 16 ∧ i = .int .i64 p) (fun i => 16 - (intOf i).toNat)
                              case atStart => exact ⟨0, by omega, rfl⟩
                              case round =>
                                obtain ⟨p3, hp3, rfl⟩ := hrel
                                by_cases hpl3 : p3 < 16
                                · have x1 := HR3.out p3 hpl3
                                  go_wp2_with fail
                                  exact ⟨⟨p3 + 1, by omega, by go_num⟩, by simp [intOf]; omega⟩
                                · go_wp2_with fail
                                  go_ret
                                  exact ⟨rfl, hfin⟩

end Go.Proofs.Ybulkexoxc
