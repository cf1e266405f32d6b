/- yamlnode.LawS194114BWhole (function 4): the walk. -/
import Derived.Test.YbulkexpbyRows
import Derived.Test.YbulkexpbyKit
import Derived.Laws.EntriesVeiled
import Derived.WideLaws
namespace Go.Proofs.Ybulkexpby
open Go.RowKit Go.PK

set_option maxHeartbeats 1000000 in
set_option maxRecDepth 100000 in
theorem lawB_big (wi wp : Bool) (a0 : Option Addr) (n cap0 : Nat) (cl : Int) (w : World) (h : 1048576 < n) (hm : n ≤ maxLen) :
    Calls Yba.prog 4 #[.bool wi, .bool wp, .slice a0 n cap0, .int .u8 cl] w fun e w' => e = .returned (.bool true) ∧ Below w.heap.size w w' := by
  unfold maxLen at hm
  go_enter Yba.func4, Yba.ntmps4
  go_wp2
  go_ret
  exact ⟨rfl, (Below.refl _ _).alloc (Nat.le_refl _) _⟩

set_option maxHeartbeats 400000 in
theorem newIndex_any (w : World) : Calls Yba.prog 9 #[] w fun e w' => e = .returned (.pointer (some ⟨w.heap.size + 1, 0, none⟩)) ∧ Below w.heap.size w w' ∧
    w'.heap[w.heap.size]? = some (.map #[] 0) ∧ w'.heap[w.heap.size + 1]? = some (.cells #[.map (some w.heap.size)] 57) := by
  have hmm := @run_makeMap Yba.prog
  go_enter Yba.func9, Yba.ntmps9
  go_wp2
  go_ret
  exact ⟨rfl, ((Below.refl _ _).alloc (Nat.le_refl _) _).alloc (by simp) _, blk_alloc (blk_new _ _) _, blk_at (by simp)⟩

set_option maxHeartbeats 400000 in
theorem newEd_any (ix : Option Addr) (pad : Value) (w : World) (hp : pad = .nilFunc ∨ ∃ f a b, pad = .func f a b) : Calls Yba.prog 11 #[.pointer ix, pad] w fun e w' => e = .returned (.pointer (some ⟨w.heap.size + 1, 0, none⟩)) ∧ Below w.heap.size w w' ∧
    w'.heap[w.heap.size]? = some (.map #[] 0) ∧ w'.heap[w.heap.size + 1]? = some (.cells #[.map (some w.heap.size), .pointer ix, pad] 54) := by
  have hmm := @run_makeMap Yba.prog
  rcases hp with rfl | ⟨f, a, b, rfl⟩
  all_goals
    go_enter Yba.func11, Yba.ntmps11
    go_wp2
    go_ret
    exact ⟨rfl, ((Below.refl _ _).alloc (Nat.le_refl _) _).alloc (by simp) _, blk_alloc (blk_new _ _) _, blk_at (by simp)⟩

def nodeOf (i : Nat) (s : ByteArray) : Array Value := #[.int .u32 (i : Nat), .int .u32 0, .string ByteArray.empty, .string s, .string ByteArray.empty, .pointer none, .slice none 0 0, .int .i64 0, .int .i64 0]

theorem run_eql_func_nil (w : World) (f : Fn) (a b : Array Value) : (binOp .eql 42 (.func f a b) .nilFunc).run Yba.prog w = .ok (.bool false) w := by
  have h : ∀ d : Nat, (Op.equalIn (d + 1) 42 (.func f a b) .nilFunc).run Yba.prog w = .ok false w := fun d => by simp [Op.equalIn, run_underlying Yba.underlying42]
  simp only [binOp]
  simp [Op.equal, Op.maxDepth, h 9999]
theorem run_eql_nilFunc_nil (w : World) : (binOp .eql 42 .nilFunc .nilFunc).run Yba.prog w = .ok (.bool true) w := by
  have h : ∀ d : Nat, (Op.equalIn (d + 1) 42 .nilFunc .nilFunc).run Yba.prog w = .ok true w := fun d => by simp [Op.equalIn, run_underlying Yba.underlying42]
  simp only [binOp]
  simp [Op.equal, Op.maxDepth, h 9999]

theorem after_pad {w w3 wr : World} {kb vb eb t q : Nat} {c : Array Value} {T : TypeId} {a0 : Value} {ed : Array Value} {N : Nat} (hw3 : w3 = ((wr.setCell ⟨kb, 0, none⟩ (.int .i64 ((t : Int) + 1))).alloc (.cells c T)).drewN q)
    (Kr : wr.heap[kb]? = some (.cells #[.int .i64 (t : Nat)] 3)) (Vr : wr.heap[vb]? = some (.cells #[a0] 39)) (Xr : wr.heap[eb]? = some (.cells ed 54)) (hB : Below N w wr) (hN : N ≤ kb) :
    w3.heap[wr.heap.size]? = some (.cells c T) ∧ w3.heap[kb]? = some (.cells #[.int .i64 ((t : Int) + 1)] 3) ∧ w3.heap[vb]? = some (.cells #[a0] 39) ∧ w3.heap[eb]? = some (.cells ed 54) ∧ Below N w w3 := by
  subst hw3
  have n1 := ne_of_type Vr Kr (by decide)
  have n2 := ne_of_type Xr Kr (by decide)
  have hl := blk_lt Kr
  exact ⟨blk_at (by simp), blk_alloc (blk_same Kr 0 _) _, blk_alloc (blk_set Vr n1 _) _, blk_alloc (blk_set Xr n2 _) _, below_drewN ((hB.setCell hN _).alloc (by simp; omega) _) q⟩

theorem node_cells {x : World} {nb t : Nat} {s : ByteArray} (h : x.heap[nb]? = some (.cells (nodeOf t s) 49)) : x.cell? ⟨nb, 0, none⟩ = some (.int .u32 (t : Nat)) ∧ x.cell? ⟨nb, 3, none⟩ = some (.string s) :=
  ⟨by rw [cell_of_row x nb 0 _ 49 _ h]; rfl, by rw [cell_of_row x nb 3 _ 49 _ h]; rfl⟩

theorem cell1 {w : World} {b : Nat} {x : Value} {t : TypeId} (h : w.heap[b]? = some (.cells #[x] t)) : w.cell? ⟨b, 0, none⟩ = some x ∧ ∀ j, w.frozen? ⟨b, j, none⟩ = false :=
  ⟨by rw [cell_of_row w b 0 _ t _ h]; rfl, fun j => frozen_of_row w b j _ t h⟩

set_option maxHeartbeats 1000000 in
theorem pad_some (kb vb i n cap b o : Nat) (s : ByteArray) (w : World) (hk : w.heap[kb]? = some (.cells #[.int .i64 (i : Nat)] 3)) (hv : w.heap[vb]? = some (.cells #[.slice (some ⟨b, o, none⟩) n cap] 39))
    (hn : 0 < n) (hn2 : n ≤ 1048576) (hs : w.cell? ⟨b, o + i % n, none⟩ = some (.string s)) (hi : i ≤ 100) (hb : b < w.heap.size) :
    Calls Yba.prog 10 #[.pointer (some ⟨kb, 0, none⟩), .pointer (some ⟨vb, 0, none⟩)] w fun e w' => e = .returned (.pointer (some ⟨w.heap.size, 0, none⟩)) ∧ ∃ q, w' = ((w.setCell ⟨kb, 0, none⟩ (.int .i64 ((i : Int) + 1))).alloc (.cells (nodeOf i s) 49)).drewN q := by
  obtain ⟨k0, kf⟩ := cell1 hk
  obtain ⟨v0, vf⟩ := cell1 hv
  have hkl := blk_lt hk
  have hvl := blk_lt hv
  go_enter Yba.func10, Yba.ntmps10
  have m0 : (0 : Int) ≤ (i : Int) % (n : Int) := Int.emod_nonneg _ (by omega)
  have m1 : (i : Int) % (n : Int) < (n : Int) := Int.emod_lt_of_pos _ (by omega)
  have m2 : ((i : Int) % (n : Int)).toNat = i % n := by omega
  have hn0 : ((n : Int) == 0) = false := by rw [beq_eq_false_iff_ne]; omega
  go_wp2
  go_region
  go_wp2
  go_ret
  exact ⟨rfl, 1, rfl⟩

set_option maxHeartbeats 1000000 in
theorem pad_none (kb vb i cap : Nat) (a0 : Option Addr) (w : World) (hk : w.heap[kb]? = some (.cells #[.int .i64 (i : Nat)] 3)) (hv : w.heap[vb]? = some (.cells #[.slice a0 0 cap] 39)) (hi : i ≤ 100) :
    Calls Yba.prog 10 #[.pointer (some ⟨kb, 0, none⟩), .pointer (some ⟨vb, 0, none⟩)] w fun e w' => e = .returned (.pointer (some ⟨w.heap.size, 0, none⟩)) ∧ ∃ q, w' = ((w.setCell ⟨kb, 0, none⟩ (.int .i64 ((i : Int) + 1))).alloc (.cells (nodeOf i ByteArray.empty) 49)).drewN q := by
  obtain ⟨k0, kf⟩ := cell1 hk
  obtain ⟨v0, vf⟩ := cell1 hv
  have hkl := blk_lt hk
  have hvl := blk_lt hv
  go_enter Yba.func10, Yba.ntmps10
  go_wp2
  go_ret
  exact ⟨rfl, 0, rfl⟩

set_option maxHeartbeats 2000000 in
set_option maxRecDepth 100000 in
theorem lawB_tt (a0 : Option Addr) (n cap0 : Nat) (cl : Int) (s : Nat → ByteArray) (w : World) (h1 : n ≤ 1048576) (hcl : 0 ≤ cl) (hcl2 : cl ≤ 255)
    (hcell : ∀ k, k < n → ∃ b o, a0 = some ⟨b, o, none⟩ ∧ b < w.heap.size ∧ w.cell? ⟨b, o + k, none⟩ = some (.string (s k))) :
    Calls Yba.prog 4 #[.bool true, .bool true, .slice a0 n cap0, .int .u8 cl] w fun e w' => e = .returned (.bool true) ∧ Below w.heap.size w w' := by
  have q52 := fun w r => run_eql_map_nil (P := Yba.prog) w 52 _ _ r Yba.underlying52
  have q55 := fun w r => run_eql_map_nil (P := Yba.prog) w 55 _ _ r Yba.underlying55
  have hpn : ∀ w a, (binOp .neq 40 (.pointer (some a)) (.pointer (some a))).run Yba.prog w = .ok (.bool false) w := run_neq_ptr_same (P := Yba.prog) (tp := 40) (te := 57) (j := 1) Yba.underlying40 (by kernel_rfl)
  have Hcell : Hid (∀ k, k < n → ∃ b o, a0 = some ⟨b, o, none⟩ ∧ b < w.heap.size ∧ w.cell? ⟨b, o + k, none⟩ = some (.string (s k))) := hcell
  clear hcell
  go_enter Yba.func4, Yba.ntmps4
  go_wp2_with fail
  refine (newIndex_any _).mono ?_
  rintro e w1 ⟨rfl, hb1, hm1, hx1⟩
  have V1 := blk_below (blk_new w (.cells #[.slice a0 n cap0] 39)) hb1 (by simp)
  have hB1 : Below w.heap.size w w1 := ((Below.refl _ _).alloc (Nat.le_refl _) _).trans (hb1.mono (by simp))
  clear hb1
  simp only [World.size_alloc] at hm1 hx1
  go_wp2_with fail
  refine (newEd_any _ _ _ (.inr ⟨_, _, _, rfl⟩)).mono ?_
  rintro e w2 ⟨rfl, hb2, hm2, hx2⟩
  have K2 := blk_below (blk_new w1 (.cells #[.int .i64 0] 3)) hb2 (by simp)
  have V2 := blk_below (blk_alloc V1 (.cells #[.int .i64 0] 3)) hb2 (blk_lt (blk_alloc V1 _))
  have I2 := blk_below (blk_alloc hm1 (.cells #[.int .i64 0] 3)) hb2 (blk_lt (blk_alloc hm1 _))
  have X2 := blk_below (blk_alloc hx1 (.cells #[.int .i64 0] 3)) hb2 (blk_lt (blk_alloc hx1 _))
  have hB2 : Below w.heap.size w w2 := (hB1.alloc hB1.size _).trans (hb2.mono (by simp; have := hB1.size; omega))
  have hv12 := blk_lt V1
  clear hb2 hm1 hx1 V1
  simp only [World.size_alloc] at hm2 hx2
  obtain ⟨x0, x1, x2, xf⟩ := cells3 hx2
  obtain ⟨y0, yf⟩ := cell1 X2
  obtain ⟨k0, kf⟩ := cell1 K2
  obtain ⟨v0, vf⟩ := cell1 V2
  have qf := run_eql_func_nil
  have l52 := fun ty => run_len_map (P := Yba.prog) (w := w2) 52 ty (w1.heap.size + 1) #[] 0 (by kernel_rfl) hm2
  have l55 := fun ty => run_len_map (P := Yba.prog) (w := w2) 55 ty (w.heap.size + 1) #[] 0 (by kernel_rfl) I2
  go_wp2_with fail
  go_loopw [14] (fun i wr => ∃ t : Nat, (t : Int) ≤ cl % 8 + 1 ∧ i = .int .i64 t ∧ Below w.heap.size w wr ∧ wr.heap[w1.heap.size]? = some (.cells #[.int .i64 (t : Nat)] 3) ∧ wr.heap[w.heap.size]? = some (.cells #[.slice a0 n cap0] 39) ∧
    wr.heap[w1.heap.size + 1 + 1]? = some (.cells #[.map (some (w1.heap.size + 1)), .pointer (some ⟨w.heap.size + 1 + 1, 0, none⟩), .func (.func 10) #[] #[.pointer (some ⟨w1.heap.size, 0, none⟩), .pointer (some ⟨w.heap.size, 0, none⟩)]] 54)) (fun i _ => (cl % 8 + 1).toNat - (intOf i).toNat)
  case atStart => exact ⟨0, by omega, rfl, hB2, K2, V2, hx2⟩
  case round =>
    obtain ⟨t, ht, rfl, hBr, Kr, Vr, Xr⟩ := hrel
    clear x0 x1 x2 xf y0 yf k0 kf v0 vf l52 l55 hm2 hx2 K2 V2 I2 X2 hB2
    obtain ⟨x0, x1, x2, xf⟩ := cells3 Xr
    obtain ⟨k0, kf⟩ := cell1 Kr
    obtain ⟨v0, vf⟩ := cell1 Vr
    by_cases hlt : (t : Int) < cl % 8 + 1
    · go_wp2_with fail
      by_cases hn : 0 < n
      · obtain ⟨b, o, ha, hb, hck⟩ := Hcell.out (t % n) (Nat.mod_lt _ hn)
        subst ha
        have hcw : wr.cell? ⟨b, o + t % n, none⟩ = some (.string (s (t % n))) := by rw [hBr.cell (p := ⟨b, o + t % n, none⟩) hb]; exact hck
        refine (pad_some w1.heap.size w.heap.size t n cap0 b o (s (t % n)) wr Kr Vr hn h1 hcw (by omega) (Nat.lt_of_lt_of_le hb hBr.size)).mono ?_
        rintro e w3 ⟨rfl, q, hw3⟩
        obtain ⟨N3, K3, V3, X3, hB3⟩ := after_pad hw3 Kr Vr Xr hBr hB1.size
        have hc3 : w3.cell? ⟨b, o + t % n, none⟩ = some (.string (s (t % n))) := by rw [hB3.cell (p := ⟨b, o + t % n, none⟩) hb]; exact hck
        obtain ⟨z0, z3⟩ := node_cells N3
        clear hw3 hcw x0 x1 x2 xf k0 kf v0 vf
        obtain ⟨v0, vf⟩ := cell1 V3
        generalize hsq : s (t % n) = st at *
        have m0 : (0 : Int) ≤ (t : Int) % (n : Int) := Int.emod_nonneg _ (by omega)
        have m1 : (t : Int) % (n : Int) < (n : Int) := Int.emod_lt_of_pos _ (by omega)
        have m2 : ((t : Int) % (n : Int)).toNat = t % n := by omega
        have hn0 : ((n : Int) == 0) = false := by rw [beq_eq_false_iff_ne]; omega
        go_wp2_with fail
        go_region
        go_wp2_with fail
        exact ⟨⟨t + 1, by omega, by go_num, hB3.drew, K3, V3, X3⟩, by simp [intOf]; omega⟩
      · obtain rfl : n = 0 := by omega
        refine (pad_none w1.heap.size w.heap.size t cap0 a0 wr Kr Vr (by omega)).mono ?_
        rintro e w3 ⟨rfl, q, hw3⟩
        obtain ⟨N3, K3, V3, X3, hB3⟩ := after_pad hw3 Kr Vr Xr hBr hB1.size
        obtain ⟨z0, z3⟩ := node_cells N3
        clear hw3 x0 x1 x2 xf k0 kf v0 vf
        obtain ⟨v0, vf⟩ := cell1 V3
        go_wp2_with fail
        go_roundw
        case rel => first | exact ⟨t + 1, by omega, by go_num, hB3, K3, V3, X3⟩ | ((repeat apply Exists.intro); exact ⟨⟨t + 1, by omega, by go_num, hB3, K3, V3, X3⟩, rfl⟩)
        case measure => simp [intOf]; omega
    · have hte : ((t : Int) == cl % 8 + 1) = true := beq_iff_eq.2 (by omega)
      go_wp2_with fail
      go_ret
      exact ⟨rfl, hBr⟩

set_option maxHeartbeats 2000000 in
set_option maxRecDepth 100000 in
theorem lawB_ft (a0 : Option Addr) (n cap0 : Nat) (cl : Int) (s : Nat → ByteArray) (w : World) (h1 : n ≤ 1048576) (hcl : 0 ≤ cl) (hcl2 : cl ≤ 255)
    (hcell : ∀ k, k < n → ∃ b o, a0 = some ⟨b, o, none⟩ ∧ b < w.heap.size ∧ w.cell? ⟨b, o + k, none⟩ = some (.string (s k))) :
    Calls Yba.prog 4 #[.bool false, .bool true, .slice a0 n cap0, .int .u8 cl] w fun e w' => e = .returned (.bool true) ∧ Below w.heap.size w w' := by
  have q52 := fun w r => run_eql_map_nil (P := Yba.prog) w 52 _ _ r Yba.underlying52
  have q55 := fun w r => run_eql_map_nil (P := Yba.prog) w 55 _ _ r Yba.underlying55
  have hpn : ∀ w a, (binOp .neq 40 (.pointer (some a)) (.pointer (some a))).run Yba.prog w = .ok (.bool false) w := run_neq_ptr_same (P := Yba.prog) (tp := 40) (te := 57) (j := 1) Yba.underlying40 (by kernel_rfl)
  have Hcell : Hid (∀ k, k < n → ∃ b o, a0 = some ⟨b, o, none⟩ ∧ b < w.heap.size ∧ w.cell? ⟨b, o + k, none⟩ = some (.string (s k))) := hcell
  clear hcell
  go_enter Yba.func4, Yba.ntmps4
  go_wp2_with fail
  have V1 := blk_new w (.cells #[.slice a0 n cap0] 39)
  have hB1 : Below w.heap.size w (w.alloc (.cells #[.slice a0 n cap0] 39)) := (Below.refl _ _).alloc (Nat.le_refl _) _
  refine (newEd_any _ _ _ (.inr ⟨_, _, _, rfl⟩)).mono ?_
  rintro e w2 ⟨rfl, hb2, hm2, hx2⟩
  have K2 := blk_below (blk_new (w.alloc (.cells #[.slice a0 n cap0] 39)) (.cells #[.int .i64 0] 3)) hb2 (by simp)
  have V2 := blk_below (blk_alloc V1 (.cells #[.int .i64 0] 3)) hb2 (blk_lt (blk_alloc V1 _))
  have hB2 : Below w.heap.size w w2 := (hB1.alloc hB1.size _).trans (hb2.mono (by simp; have := hB1.size; omega))
  have hv12 := blk_lt V1
  clear hb2 V1
  simp only [World.size_alloc] at hm2 hx2 K2
  obtain ⟨x0, x1, x2, xf⟩ := cells3 hx2
  obtain ⟨k0, kf⟩ := cell1 K2
  obtain ⟨v0, vf⟩ := cell1 V2
  have qf := run_eql_func_nil
  have l52 := fun ty => run_len_map (P := Yba.prog) (w := w2) 52 ty ((w.heap.size + 1) + 1) #[] 0 (by kernel_rfl) hm2
  go_wp2_with fail
  go_loopw [14] (fun i wr => ∃ t : Nat, (t : Int) ≤ cl % 8 + 1 ∧ i = .int .i64 t ∧ Below w.heap.size w wr ∧ wr.heap[(w.heap.size + 1)]? = some (.cells #[.int .i64 (t : Nat)] 3) ∧ wr.heap[w.heap.size]? = some (.cells #[.slice a0 n cap0] 39) ∧
    wr.heap[(w.heap.size + 1) + 1 + 1]? = some (.cells #[.map (some ((w.heap.size + 1) + 1)), .pointer none, .func (.func 10) #[] #[.pointer (some ⟨(w.heap.size + 1), 0, none⟩), .pointer (some ⟨w.heap.size, 0, none⟩)]] 54)) (fun i _ => (cl % 8 + 1).toNat - (intOf i).toNat)
  case atStart => exact ⟨0, by omega, rfl, hB2, K2, V2, hx2⟩
  case round =>
    obtain ⟨t, ht, rfl, hBr, Kr, Vr, Xr⟩ := hrel
    clear x0 x1 x2 xf k0 kf v0 vf l52 hm2 hx2 K2 V2 hB2
    obtain ⟨x0, x1, x2, xf⟩ := cells3 Xr
    obtain ⟨k0, kf⟩ := cell1 Kr
    obtain ⟨v0, vf⟩ := cell1 Vr
    by_cases hlt : (t : Int) < cl % 8 + 1
    · go_wp2_with fail
      by_cases hn : 0 < n
      · obtain ⟨b, o, ha, hb, hck⟩ := Hcell.out (t % n) (Nat.mod_lt _ hn)
        subst ha
        have hcw : wr.cell? ⟨b, o + t % n, none⟩ = some (.string (s (t % n))) := by rw [hBr.cell (p := ⟨b, o + t % n, none⟩) hb]; exact hck
        refine (pad_some (w.heap.size + 1) w.heap.size t n cap0 b o (s (t % n)) wr Kr Vr hn h1 hcw (by omega) (Nat.lt_of_lt_of_le hb hBr.size)).mono ?_
        rintro e w3 ⟨rfl, q, hw3⟩
        obtain ⟨N3, K3, V3, X3, hB3⟩ := after_pad hw3 Kr Vr Xr hBr (by omega)
        have hc3 : w3.cell? ⟨b, o + t % n, none⟩ = some (.string (s (t % n))) := by rw [hB3.cell (p := ⟨b, o + t % n, none⟩) hb]; exact hck
        obtain ⟨z0, z3⟩ := node_cells N3
        clear hw3 hcw x0 x1 x2 xf k0 kf v0 vf
        obtain ⟨v0, vf⟩ := cell1 V3
        generalize hsq : s (t % n) = st at *
        have m0 : (0 : Int) ≤ (t : Int) % (n : Int) := Int.emod_nonneg _ (by omega)
        have m1 : (t : Int) % (n : Int) < (n : Int) := Int.emod_lt_of_pos _ (by omega)
        have m2 : ((t : Int) % (n : Int)).toNat = t % n := by omega
        have hn0 : ((n : Int) == 0) = false := by rw [beq_eq_false_iff_ne]; omega
        go_wp2_with fail
        go_region
        go_wp2_with fail
        exact ⟨⟨t + 1, by omega, by go_num, hB3.drew, K3, V3, X3⟩, by simp [intOf]; omega⟩
      · obtain rfl : n = 0 := by omega
        refine (pad_none (w.heap.size + 1) w.heap.size t cap0 a0 wr Kr Vr (by omega)).mono ?_
        rintro e w3 ⟨rfl, q, hw3⟩
        obtain ⟨N3, K3, V3, X3, hB3⟩ := after_pad hw3 Kr Vr Xr hBr (by omega)
        obtain ⟨z0, z3⟩ := node_cells N3
        clear hw3 x0 x1 x2 xf k0 kf v0 vf
        obtain ⟨v0, vf⟩ := cell1 V3
        go_wp2_with fail
        go_roundw
        case rel => first | exact ⟨t + 1, by omega, by go_num, hB3, K3, V3, X3⟩ | ((repeat apply Exists.intro); exact ⟨⟨t + 1, by omega, by go_num, hB3, K3, V3, X3⟩, rfl⟩)
        case measure => simp [intOf]; omega
    · have hte : ((t : Int) == cl % 8 + 1) = true := beq_iff_eq.2 (by omega)
      go_wp2_with fail
      go_ret
      exact ⟨rfl, hBr⟩

set_option maxHeartbeats 2000000 in
set_option maxRecDepth 100000 in
theorem lawB_tf (a0 : Option Addr) (n cap0 : Nat) (cl : Int) (w : World) (h1 : n ≤ 1048576) :
    Calls Yba.prog 4 #[.bool true, .bool false, .slice a0 n cap0, .int .u8 cl] w fun e w' => e = .returned (.bool true) ∧ Below w.heap.size w w' := by
  have q52 := fun w r => run_eql_map_nil (P := Yba.prog) w 52 _ _ r Yba.underlying52
  have q55 := fun w r => run_eql_map_nil (P := Yba.prog) w 55 _ _ r Yba.underlying55
  have hpn : ∀ w a, (binOp .neq 40 (.pointer (some a)) (.pointer (some a))).run Yba.prog w = .ok (.bool false) w := run_neq_ptr_same (P := Yba.prog) (tp := 40) (te := 57) (j := 1) Yba.underlying40 (by kernel_rfl)
  go_enter Yba.func4, Yba.ntmps4
  go_wp2_with fail
  refine (newIndex_any _).mono ?_
  rintro e w1 ⟨rfl, hb1, hm1, hx1⟩
  have V1 := blk_below (blk_new w (.cells #[.slice a0 n cap0] 39)) hb1 (by simp)
  have hB1 : Below w.heap.size w w1 := ((Below.refl _ _).alloc (Nat.le_refl _) _).trans (hb1.mono (by simp))
  clear hb1
  simp only [World.size_alloc] at hm1 hx1
  go_wp2_with fail
  refine (newEd_any _ _ _ (.inl rfl)).mono ?_
  rintro e w2 ⟨rfl, hb2, hm2, hx2⟩
  have K2 := blk_below (blk_new w1 (.cells #[.int .i64 0] 3)) hb2 (by simp)
  have V2 := blk_below (blk_alloc V1 (.cells #[.int .i64 0] 3)) hb2 (blk_lt (blk_alloc V1 _))
  have I2 := blk_below (blk_alloc hm1 (.cells #[.int .i64 0] 3)) hb2 (blk_lt (blk_alloc hm1 _))
  have X2 := blk_below (blk_alloc hx1 (.cells #[.int .i64 0] 3)) hb2 (blk_lt (blk_alloc hx1 _))
  have hB2 : Below w.heap.size w w2 := (hB1.alloc hB1.size _).trans (hb2.mono (by simp; have := hB1.size; omega))
  have hv12 := blk_lt V1
  clear hb2 hm1 hx1 V1
  simp only [World.size_alloc] at hm2 hx2
  obtain ⟨x0, x1, x2, xf⟩ := cells3 hx2
  obtain ⟨y0, yf⟩ := cell1 X2
  obtain ⟨k0, kf⟩ := cell1 K2
  obtain ⟨v0, vf⟩ := cell1 V2
  have qf := run_eql_nilFunc_nil
  have l52 := fun ty => run_len_map (P := Yba.prog) (w := w2) 52 ty (w1.heap.size + 1) #[] 0 (by kernel_rfl) hm2
  have l55 := fun ty => run_len_map (P := Yba.prog) (w := w2) 55 ty (w.heap.size + 1) #[] 0 (by kernel_rfl) I2
  go_wp2_with fail
  go_ret
  exact ⟨rfl, hB2⟩

set_option maxHeartbeats 2000000 in
set_option maxRecDepth 100000 in
theorem lawB_ff (a0 : Option Addr) (n cap0 : Nat) (cl : Int) (w : World) (h1 : n ≤ 1048576) :
    Calls Yba.prog 4 #[.bool false, .bool false, .slice a0 n cap0, .int .u8 cl] w fun e w' => e = .returned (.bool true) ∧ Below w.heap.size w w' := by
  have q52 := fun w r => run_eql_map_nil (P := Yba.prog) w 52 _ _ r Yba.underlying52
  have q55 := fun w r => run_eql_map_nil (P := Yba.prog) w 55 _ _ r Yba.underlying55
  have hpn : ∀ w a, (binOp .neq 40 (.pointer (some a)) (.pointer (some a))).run Yba.prog w = .ok (.bool false) w := run_neq_ptr_same (P := Yba.prog) (tp := 40) (te := 57) (j := 1) Yba.underlying40 (by kernel_rfl)
  go_enter Yba.func4, Yba.ntmps4
  go_wp2_with fail
  have V1 := blk_new w (.cells #[.slice a0 n cap0] 39)
  have hB1 : Below w.heap.size w (w.alloc (.cells #[.slice a0 n cap0] 39)) := (Below.refl _ _).alloc (Nat.le_refl _) _
  refine (newEd_any _ _ _ (.inl rfl)).mono ?_
  rintro e w2 ⟨rfl, hb2, hm2, hx2⟩
  have K2 := blk_below (blk_new (w.alloc (.cells #[.slice a0 n cap0] 39)) (.cells #[.int .i64 0] 3)) hb2 (by simp)
  have V2 := blk_below (blk_alloc V1 (.cells #[.int .i64 0] 3)) hb2 (blk_lt (blk_alloc V1 _))
  have hB2 : Below w.heap.size w w2 := (hB1.alloc hB1.size _).trans (hb2.mono (by simp; have := hB1.size; omega))
  have hv12 := blk_lt V1
  clear hb2 V1
  simp only [World.size_alloc] at hm2 hx2 K2
  obtain ⟨x0, x1, x2, xf⟩ := cells3 hx2
  obtain ⟨k0, kf⟩ := cell1 K2
  obtain ⟨v0, vf⟩ := cell1 V2
  have qf := run_eql_nilFunc_nil
  have l52 := fun ty => run_len_map (P := Yba.prog) (w := w2) 52 ty ((w.heap.size + 1) + 1) #[] 0 (by kernel_rfl) hm2
  go_wp2_with fail
  go_ret
  exact ⟨rfl, hB2⟩

end Go.Proofs.Ybulkexpby
