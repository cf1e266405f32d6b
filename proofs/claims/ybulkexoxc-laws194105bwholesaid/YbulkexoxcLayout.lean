/- newLayout (function 9). -/
import Derived.Test.YbulkexoxcSmall
import Derived.Test.YbulkexoxcPlain
namespace Go.Proofs.Ybulkexoxc
open Go.RowKit Go.PK

theorem Yba.info55 : (Yba.prog.info? 55).map (fun i => (i.zero, i.size, i.bytes)) = some (some (.agg #[.int .i64 0, .int .u64 0, .int .u64 0]), 3, 24) := by kernel_rfl

/-- n rows of three cells, shut to the walk. -/
def rep3 (n : Nat) (x y z : Value) : Array Value := madeCells #[x, y, z] (n * 3)
theorem rep3_size (n : Nat) (x y z : Value) : (rep3 n x y z).size = n * 3 := size_madeCells _ _
theorem rep3_get {n : Nat} {x y z : Value} (e : Nat) (h : e < n) : (rep3 n x y z)[e * 3]? = some x ∧ (rep3 n x y z)[e * 3 + 1]? = some y ∧ (rep3 n x y z)[e * 3 + 2]? = some z := by
  have g : ∀ i, i < n * 3 → (rep3 n x y z)[i]? = some (#[x, y, z][i % 3]!) := by
    intro i hi
    simp [rep3, madeCells, hi]
  refine ⟨?_, ?_, ?_⟩
  · rw [g _ (by omega), show e * 3 % 3 = 0 by omega]; rfl
  · rw [g _ (by omega), show (e * 3 + 1) % 3 = 1 by omega]; rfl
  · rw [g _ (by omega), show (e * 3 + 2) % 3 = 2 by omega]; rfl

/-- the mask of a field of W bits, as the walk writes '1<<W - 1' on a uint64. -/
def maskI (W : Nat) : Int := IntKind.u64.wrap (IntKind.u64.wrap (2 ^ W) - 1)

theorem set3 {cs : Array Value} {n k : Nat} (hs : cs.size = n * 3) (hk : k < n) (x y z : Value) :
    let cs' := ((cs.setIfInBounds (k * 3) x).setIfInBounds (k * 3 + 1) y).setIfInBounds (k * 3 + 2) z
    cs'.size = n * 3 ∧ cs'[k * 3]? = some x ∧ cs'[k * 3 + 1]? = some y ∧ cs'[k * 3 + 2]? = some z ∧ ∀ i, i < k * 3 → cs'[i]? = cs[i]? := by
  refine ⟨by simp [hs], ?_, ?_, ?_, fun i hi => ?_⟩
  · rw [Array.getElem?_setIfInBounds_ne (by omega), Array.getElem?_setIfInBounds_ne (by omega), Array.getElem?_setIfInBounds_self_of_lt (by omega)]
  · rw [Array.getElem?_setIfInBounds_ne (by omega), Array.getElem?_setIfInBounds_self_of_lt (by simp; omega)]
  · rw [Array.getElem?_setIfInBounds_self_of_lt (by simp; omega)]
  · rw [Array.getElem?_setIfInBounds_ne (by omega), Array.getElem?_setIfInBounds_ne (by omega), Array.getElem?_setIfInBounds_ne (by omega)]

/-- What the fields' row holds behind k rounds. -/
def FieldsAt (c : Nat → Nat) (n k : Nat) (arr : Array Value) : Prop :=
  arr.size = n * 3 ∧ ∀ e, e < k → arr[e * 3]? = some (.int .i64 ((Pl.st c (e + 1)).words - 1 : Nat)) ∧ arr[e * 3 + 1]? = some (.int .u64 ((Pl.st c (e + 1)).used - Pl.width (c e) : Nat)) ∧ arr[e * 3 + 2]? = some (.int .u64 (maskI (Pl.width (c e))))

theorem FieldsAt.step {c : Nat → Nat} {n k : Nat} {arr : Array Value} (h : FieldsAt c n k arr) (hk : k < n) {wd us W : Nat} {ss : List Nat} (hst : Pl.st c (k + 1) = ⟨wd, us, ss⟩) (hW : Pl.width (c k) = W) :
    FieldsAt c n (k + 1) (((arr.setIfInBounds (k * 3) (.int .i64 (wd - 1 : Nat))).setIfInBounds (k * 3 + 1) (.int .u64 (us - W : Nat))).setIfInBounds (k * 3 + 2) (.int .u64 (maskI W))) := by
  obtain ⟨s1, s2, s3, s4, s5⟩ := set3 h.1 hk (.int .i64 (wd - 1 : Nat)) (.int .u64 (us - W : Nat)) (.int .u64 (maskI W))
  refine ⟨s1, fun e he => ?_⟩
  by_cases hek : e = k
  · subst hek
    rw [hst, hW]
    exact ⟨s2, s3, s4⟩
  · obtain ⟨h1, h2, h3⟩ := h.2 e (by omega)
    exact ⟨by rw [s5 _ (by omega)]; exact h1, by rw [s5 _ (by omega)]; exact h2, by rw [s5 _ (by omega)]; exact h3⟩

def LRel (c : Nat → Nat) (n k : Nat) (w wr : World) : Prop :=
  Below w.heap.size w wr ∧ w.heap.size + 3 < wr.heap.size ∧
  wr.heap[w.heap.size]? = some (.cells #[.slice none 0 0, .int .i64 0, .slice none 0 0] 39) ∧
  (∃ arr, wr.heap[w.heap.size + 1]? = some (.cells arr 55) ∧ FieldsAt c n k arr) ∧
  ∃ sv, wr.heap[w.heap.size + 3]? = some (.cells #[.slice (some ⟨w.heap.size + 1, 0, none⟩) n n, .int .i64 ((Pl.st c k).words : Nat), sv] 39) ∧
    wr.ownsRow w.heap.size 3 1 sv (Pl.st c k).words ((Pl.st c k).starts.map fun x => Value.int .i64 (x : Nat))

theorem len_any (cc : Nat) (h : cc ≤ 255) (w : World) :
    Calls Yba.prog 15 #[.int .u64 (IntKind.u64.wrap ((cc : Int) - 1))] w fun e w' => e = .returned (.int .i64 (Pl.width cc : Nat)) ∧ w' = w := by
  by_cases h0 : cc = 0
  · subst h0
    have e : IntKind.u64.wrap (((0 : Nat) : Int) - 1) = 18446744073709551615 := by decide
    rw [e]
    exact (Yba.bits_Len _ w (by omega) (by omega)).mono fun e w' h => h
  · have e : IntKind.u64.wrap ((cc : Int) - 1) = ((cc - 1 : Nat) : Int) := by
      simp only [IntKind.wrap_u64]; omega
    rw [e]
    refine (Yba.bits_Len _ w (by omega) (by omega)).mono fun e w' h => ?_
    rw [show Pl.width cc = Lib.bitLen (cc - 1) by simp [Pl.width, h0]]
    simpa using h

theorem layout_end {w w1 : World} {n wd g g' cap cap' : Nat} {arr : Array Value} {xs : List Value}
    (B3 : w1.heap[w.heap.size + 3]? = some (.cells #[.slice (some ⟨w.heap.size + 1, 0, none⟩) n n, .int .i64 (wd : Int), .slice (some ⟨g, 0, none⟩) wd cap] 39))
    (B1 : w1.heap[w.heap.size + 1]? = some (.cells arr 55)) (B0 : w1.heap[w.heap.size]? = some (.cells #[.slice none 0 0, .int .i64 0, .slice none 0 0] 39)) (hbel1 : Below w.heap.size w w1)
    (hown1 : w1.ownsRow w.heap.size 3 1 (.slice (some ⟨g', 0, none⟩) (wd + 1) cap') (wd + 1) xs) (x y z : Value) :
    let W := (((w1.setCell ⟨w.heap.size + 1 + 1 + 1, 2, none⟩ (.slice (some ⟨g', 0, none⟩) (wd + 1) cap')).setCell ⟨w.heap.size, 0, none⟩ x).setCell ⟨w.heap.size, 1, none⟩ y).setCell ⟨w.heap.size, 2, none⟩ z
    (W.cell? ⟨w.heap.size, 0, none⟩ = some x ∧ W.cell? ⟨w.heap.size, 1, none⟩ = some y ∧ W.cell? ⟨w.heap.size, 2, none⟩ = some z) ∧ W.heap[w.heap.size + 1]? = some (.cells arr 55) ∧
    W.ownsRow w.heap.size 3 1 (.slice (some ⟨g', 0, none⟩) (wd + 1) cap') (wd + 1) xs ∧ Below w.heap.size w W := by
  intro W
  have E0 : W.heap[w.heap.size]? = some (.cells #[x, y, z] 39) := blk_same (blk_same (blk_same (blk_set B0 (by simp; omega) _) 0 _) 1 _) 2 _
  obtain ⟨c0, c1, c2, _⟩ := cells3 E0
  refine ⟨⟨c0, c1, c2⟩, blk_set (blk_set (blk_set (blk_set B1 (by simp) _) (by simp) _) (by simp) _) (by simp) _, ?_, (((hbel1.setCell (by simp; omega) _).setCell (by simp) _).setCell (by simp) _).setCell (by simp) _⟩
  obtain ⟨cur1, hcur1, _⟩ := own_blk hown1
  have n3 := ne_of_type B3 hcur1 (by decide)
  have n0 := ne_of_type B0 hcur1 (by decide)
  exact own_keep hown1 fun o ho => blk_set (blk_set (blk_set (blk_set ho (by simp; omega) _) (by simp; omega) _) (by simp; omega) _) (by simp; omega) _

set_option maxHeartbeats 400000 in
theorem layout_any (mb eb n : Nat) (c : Nat → Nat) (sa : Nat → Option Addr) (w : World) (h1 : n ≤ 65536) (hmb : mb < w.heap.size) (heb : eb < w.heap.size)
    (hm0 : w.cell? ⟨mb, 0, none⟩ = some (.slice (some ⟨eb, 0, none⟩) n n))
    (he0 : ∀ e, e < n → w.cell? ⟨eb, e * 3, none⟩ = some (.string ByteArray.empty)) (he1 : ∀ e, e < n → w.cell? ⟨eb, e * 3 + 1, none⟩ = some (.slice (sa e) (c e) (c e)))
    (he2 : ∀ e, e < n → w.cell? ⟨eb, e * 3 + 2, none⟩ = some (.slice none 0 0)) (hc : ∀ e, c e ≤ 255) :
    Calls Yba.prog 9 #[.pointer (some ⟨mb, 0, none⟩)] w fun e w' => ∃ (fb g cap : Nat) (arr : Array Value), e = .returned (.agg #[.slice (some ⟨fb, 0, none⟩) n n, .int .i64 ((Pl.st c n).words : Nat), .slice (some ⟨g, 0, none⟩) ((Pl.st c n).words + 1) cap]) ∧
      w.heap.size ≤ fb ∧ w'.heap[fb]? = some (.cells arr 55) ∧ FieldsAt c n n arr ∧
      w'.ownsRow w.heap.size 3 1 (.slice (some ⟨g, 0, none⟩) ((Pl.st c n).words + 1) cap) ((Pl.st c n).words + 1) (((Pl.st c n).starts ++ [n]).map fun x => Value.int .i64 (x : Nat)) ∧ Below w.heap.size w w' := by
  have hmk : ∀ w, (Instr.makeSlice 37 (.int .i64 (n : Int)) (.int .i64 (n : Int))).run Yba.prog w = .ok (.slice (some ⟨w.heap.size, 0, none⟩) n n) (w.alloc (.cells (rep3 n (.int .i64 0) (.int .u64 0) (.int .u64 0)) 55)) := fun w => make_any (t := 37) (e := 55) Yba.underlying37 Yba.info55 n (by omega) (by omega) w
  have q1 : mb < w.heap.size + 1 := by omega
  have q2 : mb < w.heap.size + 1 + 1 := by omega
  have q3 : mb < w.heap.size + 1 + 1 + 1 := by omega
  have He0 : Hid (∀ e, e < n → w.cell? ⟨eb, e * 3, none⟩ = some (.string ByteArray.empty)) := he0
  have He1 : Hid (∀ e, e < n → w.cell? ⟨eb, e * 3 + 1, none⟩ = some (.slice (sa e) (c e) (c e))) := he1
  have He2 : Hid (∀ e, e < n → w.cell? ⟨eb, e * 3 + 2, none⟩ = some (.slice none 0 0)) := he2
  clear he0 he1 he2
  go_enter Yba.func9, Yba.ntmps9
  go_wp2
  go_loopw [4, 21] (fun u i wr => ∃ k : Nat, k ≤ n ∧ i = .int .i64 k ∧ u = .int .u64 ((Pl.st c k).used : Nat) ∧ LRel c n k w wr) (fun _ i _ => n - (intOf i).toNat)
  case atStart =>
    refine ⟨0, by omega, rfl, rfl, ?_⟩
    refine ⟨((((Below.refl _ _).alloc (Nat.le_refl _) _).alloc (by simp) _).alloc (by simp; omega) _).alloc (by simp; omega) _, by simp, ?_, ⟨rep3 n (.int .i64 0) (.int .u64 0) (.int .u64 0), ?_, ?_⟩, .slice (some ⟨w.heap.size + 1 + 1, 0, none⟩) 1 1, ?_, ?_⟩
    · exact blk_alloc (blk_alloc (blk_alloc (blk_new _ _) _) _) _
    · refine blk_alloc (blk_alloc ?_ _) _
      exact blk_at (by simp)
    · exact ⟨rep3_size _ _ _ _, fun e he => absurd he (by omega)⟩
    · exact blk_at (by simp)
    · refine World.ownsRow.alloc ?_ _
      refine own_mk (cur := #[Value.int .i64 0]) (blk_at (by simp)) (by omega) (Nat.le_refl _) (by simp [maxLen]) (by simp)
  case round =>
    obtain ⟨k, hk, rfl, rfl, hR⟩ := hrel
    obtain ⟨hbel, hsz, hrb, ⟨arr, harr, hfa⟩, sv, hlb, hown⟩ := hR
    have hinv := Pl.st_inv c hc k
    have hW := Pl.width_le (c k) (hc k)
    generalize hst : Pl.st c k = S at hlb hown hinv ⊢
    have Hst : Hid (Pl.st c k = S) := hst
    clear hst
    obtain ⟨wd, us, ss⟩ := S
    simp only at hlb hown hinv ⊢
    by_cases hlt : k < n
    · have hlt' : k < n := hlt
      have e0 : wr.cell? ⟨eb, k * 3, none⟩ = some (.string ByteArray.empty) := by rw [hbel.cell (p := ⟨eb, k * 3, none⟩) heb]; exact He0.out k hlt
      have e1 : wr.cell? ⟨eb, k * 3 + 1, none⟩ = some (.slice (sa k) (c k) (c k)) := by rw [hbel.cell (p := ⟨eb, k * 3 + 1, none⟩) heb]; exact He1.out k hlt
      have e2 : wr.cell? ⟨eb, k * 3 + 2, none⟩ = some (.slice none 0 0) := by rw [hbel.cell (p := ⟨eb, k * 3 + 2, none⟩) heb]; exact He2.out k hlt
      obtain ⟨g, cap, rfl⟩ := Joins.ownsRow_form hown (by omega)
      obtain ⟨hl0, hl1, hl2, hlf⟩ := cells3 hlb
      have hcc := hc k
      have Hlen := len_any (c k) hcc
      generalize hck : c k = cc at *
      have Hck : Hid (c k = cc) := hck
      clear hck
      generalize hwc : Pl.width cc = W at *
      have Hwc : Hid (Pl.width cc = W) := hwc
      clear hwc
      by_cases hov : 64 < us + W
      · have hov' : (64 : Int) < (us : Int) + (W : Int) := by omega
        go_wp2_with (first | (go_at_call 15; refine (Hlen _).mono ?_; rintro e w' ⟨rfl, rfl⟩) | (at_builtin; go_must (refine wpList_app1 _ rfl _ _ 29 rfl w.heap.size 3 (.int .i64 0) 8 Yba.underlying29 Yba.info3 rfl _ wd (ss.map fun x => Value.int .i64 (x : Nat)) rfl ?hown _ _ (.int .i64 (k : Nat)) rfl ?hcell ?hone ?h63 ?hbytes ?hbase ?hK)))
        case hown => exact ((own_keep hown fun o ho => blk_set ho (by exact (ne_of_type hlb (own_blk hown).choose_spec.1 (by decide)).symm) _).alloc _).alloc _
        case hcell => exact World.cell?_alloc_at _ _ _ _ (by simp)
        case hone => rfl
        case h63 => simp [maxLen]; omega
        case hbytes => omega
        case hbase => simp; omega
        case hK =>
          intro g' cap' w1 hown1 hgrow
          obtain ⟨cur, hcur, _⟩ := own_blk hown
          have hg3 : w.heap.size + 3 ≠ g := ne_of_type hlb hcur (by decide)
          have hg1 : w.heap.size + 1 ≠ g := ne_of_type harr hcur (by decide)
          have hg0 : w.heap.size ≠ g := ne_of_type hrb hcur (by decide)
          have B3 : w1.heap[w.heap.size + 3]? = some (.cells #[.slice (some ⟨w.heap.size + 1, 0, none⟩) n n, .int .i64 ((wd : Int) + 1), .slice (some ⟨g, 0, none⟩) wd cap] 39) :=
            blk_grown (blk_alloc (blk_alloc (blk_same hlb 1 _) _) _) hgrow (by simpa [Value.ownBlock] using hg3)
          have B1 : w1.heap[w.heap.size + 1]? = some (.cells arr 55) := blk_grown (blk_alloc (blk_alloc (blk_set harr (by simp) _) _) _) hgrow (by simpa [Value.ownBlock] using hg1)
          have B0 : w1.heap[w.heap.size]? = some (.cells #[.slice none 0 0, .int .i64 0, .slice none 0 0] 39) := blk_grown (blk_alloc (blk_alloc (blk_set hrb (by simp; omega) _) _) _) hgrow (by simpa [Value.ownBlock] using hg0)
          have hbel1 : Below w.heap.size w w1 := (((hbel.setCell (p := ⟨w.heap.size + 1 + 1 + 1, 1, none⟩) (by simp; omega) _).alloc (by simp; omega) _).alloc (by simp; omega) _).grown hgrow (by simp; omega) (by intro k' hk'; simp [Value.ownBlock] at hk'; have := (own_blk hown).choose_spec.2.1; omega)
          have hs1 := blk_lt B3
          obtain ⟨m0, m1, m2, mf⟩ := cells3 B3
          obtain ⟨v0, f0⟩ := cell_ex (i := k * 3) B1 (by rw [hfa.1]; omega)
          obtain ⟨v1, f1⟩ := cell_ex (i := k * 3 + 1) B1 (by rw [hfa.1]; omega)
          obtain ⟨v2, f2⟩ := cell_ex (i := k * 3 + 2) B1 (by rw [hfa.1]; omega)
          have ff := fun j => frozen_of_row w1 (w.heap.size + 1) j _ 55 B1
          have Hov : Pl.st c (k + 1) = ⟨wd + 1, W, ss ++ [k]⟩ := by
            have := Pl.st_over (c := c) (k := k) (by rw [Hst.out, Hck.out, Hwc.out]; exact hov)
            rw [this, Hst.out, Hck.out, Hwc.out]
          have HV : Hid (Pl.st c (k + 1) = ⟨wd + 1, W, ss ++ [k]⟩) := Hov
          have HB0 := B0
          clear hl0 hl1 hl2 hlf e0 e1 e2 Hlen hgrow hcur Hov
          go_wp2
          go_roundw
          case rel =>
            refine ⟨k + 1, by omega, by go_num, by rw [HV.out], ?_⟩
            unfold LRel
            rw [HV.out]
            refine ⟨(((hbel1.setCell (by simp; omega) _).setCell (by simp) _).setCell (by simp) _).setCell (by simp) _, by simpa using hs1, ?_, ⟨_, ?_, FieldsAt.step hfa hlt HV.out (by rw [Hck.out, Hwc.out])⟩, .slice (some ⟨g', 0, none⟩) (wd + 1) cap', ?_, ?_⟩
            · exact blk_set (blk_set (blk_set (blk_set B0 (by simp; omega) _) (by simp) _) (by simp) _) (by simp) _
            · have t := blk_same (blk_same (blk_same (blk_set B1 (a := ⟨w.heap.size + 1 + 1 + 1, 2, none⟩) (by simp) (.slice (some ⟨g', 0, none⟩) (wd + 1) cap')) (k * 3) (.int .i64 wd)) (k * 3 + 1) (.int .u64 0)) (k * 3 + 2) (.int .u64 (maskI W))
              simp only [Nat.add_sub_cancel, Nat.sub_self]
              exact t
            · exact blk_set (blk_set (blk_set (blk_same B3 2 _) (by simp) _) (by simp) _) (by simp) _
            · obtain ⟨cur1, hcur1, _⟩ := own_blk hown1
              have n3 := ne_of_type B3 hcur1 (by decide)
              have n1 := ne_of_type B1 hcur1 (by decide)
              simp only [List.map_append, List.map_cons, List.map_nil]
              exact own_keep hown1 fun o ho => blk_set (blk_set (blk_set (blk_set ho (by simp; omega) _) (by simp; omega) _) (by simp; omega) _) (by simp; omega) _
          case measure => simp [intOf]; omega
      · have hov' : (us : Int) + (W : Int) ≤ 64 := by omega
        obtain ⟨v0, f0⟩ := cell_ex (i := k * 3) harr (by rw [hfa.1]; omega)
        obtain ⟨v1, f1⟩ := cell_ex (i := k * 3 + 1) harr (by rw [hfa.1]; omega)
        obtain ⟨v2, f2⟩ := cell_ex (i := k * 3 + 2) harr (by rw [hfa.1]; omega)
        have ff := fun j => frozen_of_row wr (w.heap.size + 1) j _ 55 harr
        have Hov : Pl.st c (k + 1) = ⟨wd, us + W, ss⟩ := by
          have := Pl.st_fits (c := c) (k := k) (by rw [Hst.out, Hck.out, Hwc.out]; exact hov)
          rw [this, Hst.out, Hck.out, Hwc.out]
        have HV : Hid (Pl.st c (k + 1) = ⟨wd, us + W, ss⟩) := Hov
        clear Hov
        have p1 : w.heap.size + 1 < wr.heap.size := by omega
        go_wp2_with (go_at_call 15; refine (Hlen _).mono ?_; rintro e w' ⟨rfl, rfl⟩)
        go_roundw
        case rel =>
          refine ⟨k + 1, by omega, by go_num, by rw [HV.out]; go_num, ?_⟩
          unfold LRel
          rw [HV.out]
          refine ⟨(((hbel.setCell (by simp) _).setCell (by simp) _).setCell (by simp) _).alloc (by simp; omega) _, by simp; omega, ?_, ⟨_, ?_, FieldsAt.step hfa hlt HV.out (by rw [Hck.out, Hwc.out])⟩, .slice (some ⟨g, 0, none⟩) wd cap, ?_, ?_⟩
          · exact blk_alloc (blk_set (blk_set (blk_set hrb (by simp) _) (by simp) _) (by simp) _) _
          · have t := blk_alloc (blk_same (blk_same (blk_same harr (k * 3) (.int .i64 (wd - 1 : Nat))) (k * 3 + 1) (.int .u64 us)) (k * 3 + 2) (.int .u64 (maskI W))) (Obj.cells #[Value.string ByteArray.empty, Value.slice (sa k) cc cc, Value.slice none 0 0] 27)
            simp only [Nat.add_sub_cancel]
            rw [show ((wd : Int) - 1) = ((wd - 1 : Nat) : Int) by omega]
            exact t
          · exact blk_alloc (blk_set (blk_set (blk_set hlb (by simp) _) (by simp) _) (by simp) _) _
          · obtain ⟨cur1, hcur1, _⟩ := own_blk hown
            have n1 := ne_of_type harr hcur1 (by decide)
            exact (own_keep hown fun o ho => blk_set (blk_set (blk_set ho (by simp; omega) _) (by simp; omega) _) (by simp; omega) _).alloc _
        case measure => simp [intOf]; omega
    · obtain rfl : k = n := by omega
      obtain ⟨g, cap, rfl⟩ := Joins.ownsRow_form hown (by omega)
      obtain ⟨hl0, hl1, hl2, hlf⟩ := cells3 hlb
      have hmw : wr.cell? ⟨mb, 0, none⟩ = some (.slice (some ⟨eb, 0, none⟩) k k) := by rw [hbel.cell (p := ⟨mb, 0, none⟩) hmb]; exact hm0
      obtain ⟨cur, hcur, hBg, _⟩ := own_blk hown
      have hbaseA : w.heap.size ≤ (wr.alloc (.cells #[.int .i64 (k : Int)] 3)).drew.heap.size := by simp; omega
      have hafter : ∀ w1 : World, (wr.alloc (.cells #[.int .i64 (k : Int)] 3)).drew.grownBy w1 (some g) →
          w1.heap[w.heap.size + 3]? = some (.cells #[.slice (some ⟨w.heap.size + 1, 0, none⟩) k k, .int .i64 (wd : Int), .slice (some ⟨g, 0, none⟩) wd cap] 39) ∧
          w1.heap[w.heap.size + 1]? = some (.cells arr 55) ∧ w1.heap[w.heap.size]? = some (.cells #[.slice none 0 0, .int .i64 0, .slice none 0 0] 39) ∧ Below w.heap.size w w1 := by
        intro w1 hgrow
        refine ⟨blk_grown (w := (wr.alloc (.cells #[.int .i64 (k : Int)] 3)).drew) (blk_alloc hlb _) hgrow ?_, blk_grown (w := (wr.alloc (.cells #[.int .i64 (k : Int)] 3)).drew) (blk_alloc harr _) hgrow ?_, blk_grown (w := (wr.alloc (.cells #[.int .i64 (k : Int)] 3)).drew) (blk_alloc hrb _) hgrow ?_, ?_⟩
        · have := ne_of_type hlb hcur (by decide); simpa using this
        · have := ne_of_type harr hcur (by decide); simpa using this
        · have := ne_of_type hrb hcur (by decide); simpa using this
        · exact (hbel.alloc (by omega) _).drew.grown hgrow (by simp; omega) (by intro k' hk'; cases hk'; exact hBg)
      go_wp2
      go_region_law (refine step_app1 rfl _ _ 29 rfl w.heap.size 3 (.int .i64 0) 8 Yba.underlying29 Yba.info3 rfl (.slice (some ⟨g, 0, none⟩) wd cap) wd (ss.map fun x => Value.int .i64 (x : Nat)) rfl ?_ _ _ (.int .i64 (k : Nat)) rfl ?_ rfl ?_ ?_ ?_ ?_; (focus exact (hown.alloc _).drew); (focus exact World.cell?_alloc_at _ _ _ _ (by simp)); (focus unfold maxLen; omega); (focus omega); (focus exact hbaseA); intro g' cap' w1 hown1 hgrow; obtain ⟨B3, B1, B0, hbel1⟩ := hafter w1 hgrow; obtain ⟨m0, m1, m2, mf⟩ := cells3 B3; obtain ⟨r0, r1, r2, rf⟩ := cells3 B0; clear hgrow)
      all_goals
        go_wp2
      all_goals
        obtain ⟨⟨z0, z1, z2⟩, E1, E2, E3⟩ := layout_end B3 B1 B0 hbel1 hown1 (.slice (some ⟨w.heap.size + 1, 0, none⟩) k k) (.int .i64 (wd : Int)) (.slice (some ⟨g', 0, none⟩) (wd + 1) cap')
        rw [Hst.out]
        refine bodyPost_ret (v := .agg #[.slice (some ⟨w.heap.size + 1, 0, none⟩) k k, .int .i64 (wd : Int), .slice (some ⟨g', 0, none⟩) (wd + 1) cap']) (by simp [results, Yba.results9, go_sem, z0, z1, z2]) rfl ⟨w.heap.size + 1, g', cap', arr, rfl, by omega, E1, hfa, ?_, E3⟩
        simp only [List.map_append, List.map_cons, List.map_nil]
        exact E2

end Go.Proofs.Ybulkexoxc
