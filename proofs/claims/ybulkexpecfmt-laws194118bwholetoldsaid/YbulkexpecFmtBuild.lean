/- LawS194118BWhole: zzs194118bbuild (4). -/
import Derived.Test.YbulkexpecFmtJoin
import Derived.Laws.Cover3
namespace Go.Proofs.YbulkexpecFmt
open Go.RowKit Go.PK Go.Shelf Go.RegInv
set_option linter.unusedVariables false
set_option linter.unusedSimpArgs false

/-- One tag of the input. -/
structure IT where
  s : Int
  e : Int
  i : Int
  x : Int
  c : Int
def IT.ex (t : IT) : EX := (idT t.i, excT t.x)
/-- The tags that came in. -/
def InAt (w : World) (a : Option Addr) (n : Nat) (T : Nat → IT) : Prop :=
  ∀ k, k < n → ∃ b o, a = some ⟨b, o, none⟩ ∧ b < w.heap.size ∧ w.cell? ⟨b, o + k * 5, none⟩ = some (.int .i64 (T k).s) ∧ w.cell? ⟨b, o + k * 5 + 1, none⟩ = some (.int .i64 (T k).e) ∧ w.cell? ⟨b, o + k * 5 + 2, none⟩ = some (.int .u8 (T k).i) ∧
    w.cell? ⟨b, o + k * 5 + 3, none⟩ = some (.int .u8 (T k).x) ∧ w.cell? ⟨b, o + k * 5 + 4, none⟩ = some (.int .i64 (T k).c) ∧ (0 ≤ (T k).i ∧ (T k).i ≤ 255) ∧ (0 ≤ (T k).x ∧ (T k).x ≤ 255)
theorem InAt.moved {w w' : World} {a : Option Addr} {n : Nat} {T : Nat → IT} (h : InAt w a n T) (hm : Moved w w' (fun _ => False)) : InAt w' a n T := fun k hk => by
  obtain ⟨b, o, h1, h2, h3, h4, h5, h6, h7, h8⟩ := h k hk
  exact ⟨b, o, h1, Nat.lt_of_lt_of_le h2 hm.size, hm.cell h3 (fun h => h), hm.cell h4 (fun h => h), hm.cell h5 (fun h => h), hm.cell h6 (fun h => h), hm.cell h7 (fun h => h), h8⟩

/-- The seven cells of a tag, at a place of a block. -/
structure Tag7 (w : World) (g k : Nat) (s e : Int) (a b c d : Value) (m : Int) : Prop where
  c0 : w.cell? ⟨g, k * 7, none⟩ = some (.int .i64 s)
  c1 : w.cell? ⟨g, k * 7 + 1, none⟩ = some (.int .i64 e)
  c2 : w.cell? ⟨g, k * 7 + 2, none⟩ = some a
  c3 : w.cell? ⟨g, k * 7 + 3, none⟩ = some b
  c4 : w.cell? ⟨g, k * 7 + 4, none⟩ = some c
  c5 : w.cell? ⟨g, k * 7 + 5, none⟩ = some d
  c6 : w.cell? ⟨g, k * 7 + 6, none⟩ = some (.int .i64 m)
theorem Tag7.keep {w w' : World} {g k : Nat} {s e : Int} {a b c d : Value} {m : Int} (h : Tag7 w g k s e a b c d m) (hk : ∀ j v, w.cell? ⟨g, j, none⟩ = some v → w'.cell? ⟨g, j, none⟩ = some v) : Tag7 w' g k s e a b c d m :=
  ⟨hk _ _ h.c0, hk _ _ h.c1, hk _ _ h.c2, hk _ _ h.c3, hk _ _ h.c4, hk _ _ h.c5, hk _ _ h.c6⟩

/-- The row that build makes. -/
structure Built (w : World) (g n m : Nat) (T : Nat → IT) : Prop where
  blk : ∃ M : Array Value, w.heap[g]? = some (.cells M 34) ∧ M.size = n * 7
  at7 : ∀ k, k < m → Tag7 w g k (T k).s (T k).e (.int .i64 0) (.string (T k).ex.1) (.string (T k).ex.2) (.slice none 0 0) (T k).c
theorem Built.keep {w w' : World} {g n m : Nat} {T : Nat → IT} (h : Built w g n m T) (hk : w'.heap[g]? = w.heap[g]?) : Built w' g n m T := by
  obtain ⟨M, h1, h2⟩ := h.blk
  exact ⟨⟨M, by rw [hk]; exact h1, h2⟩, fun k hk' => (h.at7 k hk').keep fun j v hc => by rw [World.cell?_of_block (w := w) hk]; exact hc⟩
theorem Built.moved {w w' : World} {g n m : Nat} {T : Nat → IT} (h : Built w g n m T) (hm : Moved w w' (fun _ => False)) : Built w' g n m T := by
  obtain ⟨M, h1, h2⟩ := h.blk
  exact h.keep (hm.block _ (blk_lt h1) (fun h => h))

theorem info34 : (Ybaf.prog.info? 34).map (fun i => (i.zero, i.size, i.bytes)) = some (some (.agg #[.int .i64 0, .int .i64 0, .int .i64 0, .string ⟨#[]⟩, .string ⟨#[]⟩, .slice none 0 0, .int .i64 0]), 7, 88) := by kernel_rfl

/-- Seven cells laid over a row's place. -/
def put7 (W : World) (g k : Nat) (s e : Int) (a b c d : Value) (m : Int) : World :=
  ((((((W.setCell ⟨g, k * 7, none⟩ (.int .i64 s)).setCell ⟨g, k * 7 + 1, none⟩ (.int .i64 e)).setCell ⟨g, k * 7 + 2, none⟩ a).setCell ⟨g, k * 7 + 3, none⟩ b).setCell ⟨g, k * 7 + 4, none⟩ c).setCell ⟨g, k * 7 + 5, none⟩ d).setCell ⟨g, k * 7 + 6, none⟩ (.int .i64 m)
theorem put7_moved (W : World) (g k : Nat) (s e : Int) (a b c d : Value) (m : Int) : Moved W (put7 W g k s e a b c d m) (fun q => q = g) := by
  have h := fun (X : World) (j : Nat) (v : Value) => Moved.setCell X ⟨g, j, none⟩ v
  exact ((((((h _ _ _).trans (M' := fun q => q = g) (h _ _ _) (fun _ h => .inl h)).trans (M' := fun q => q = g) (h _ _ _) (fun _ h => .inl h)).trans (M' := fun q => q = g) (h _ _ _) (fun _ h => .inl h)).trans (M' := fun q => q = g) (h _ _ _) (fun _ h => .inl h)).trans (M' := fun q => q = g) (h _ _ _) (fun _ h => .inl h)).trans (M' := fun q => q = g) (h _ _ _) (fun _ h => .inl h)
theorem put7_blk {W : World} {g k : Nat} {M : Array Value} (h : W.heap[g]? = some (.cells M 34)) (s e : Int) (a b c d : Value) (m : Int) :
    (put7 W g k s e a b c d m).heap[g]? = some (.cells (((((((M.setIfInBounds (k * 7) (.int .i64 s)).setIfInBounds (k * 7 + 1) (.int .i64 e)).setIfInBounds (k * 7 + 2) a).setIfInBounds (k * 7 + 3) b).setIfInBounds (k * 7 + 4) c).setIfInBounds (k * 7 + 5) d).setIfInBounds (k * 7 + 6) (.int .i64 m)) 34) :=
  blk_same (blk_same (blk_same (blk_same (blk_same (blk_same (blk_same h _ _) _ _) _ _) _ _) _ _) _ _) _ _
theorem put7_at {W : World} {g k : Nat} {M : Array Value} (h : W.heap[g]? = some (.cells M 34)) (hm : k * 7 + 7 ≤ M.size) (s e : Int) (a b c d : Value) (m : Int) : Tag7 (put7 W g k s e a b c d m) g k s e a b c d m := by
  have hb := put7_blk (k := k) h s e a b c d m
  constructor <;> rw [cell_of_row _ _ _ _ _ _ hb]
  · rw [Array.getElem?_setIfInBounds_ne (by omega), Array.getElem?_setIfInBounds_ne (by omega), Array.getElem?_setIfInBounds_ne (by omega), Array.getElem?_setIfInBounds_ne (by omega), Array.getElem?_setIfInBounds_ne (by omega), Array.getElem?_setIfInBounds_ne (by omega), Array.getElem?_setIfInBounds_self_of_lt (by omega)]
  · rw [Array.getElem?_setIfInBounds_ne (by omega), Array.getElem?_setIfInBounds_ne (by omega), Array.getElem?_setIfInBounds_ne (by omega), Array.getElem?_setIfInBounds_ne (by omega), Array.getElem?_setIfInBounds_ne (by omega), Array.getElem?_setIfInBounds_self_of_lt (by simp; omega)]
  · rw [Array.getElem?_setIfInBounds_ne (by omega), Array.getElem?_setIfInBounds_ne (by omega), Array.getElem?_setIfInBounds_ne (by omega), Array.getElem?_setIfInBounds_ne (by omega), Array.getElem?_setIfInBounds_self_of_lt (by simp; omega)]
  · rw [Array.getElem?_setIfInBounds_ne (by omega), Array.getElem?_setIfInBounds_ne (by omega), Array.getElem?_setIfInBounds_ne (by omega), Array.getElem?_setIfInBounds_self_of_lt (by simp; omega)]
  · rw [Array.getElem?_setIfInBounds_ne (by omega), Array.getElem?_setIfInBounds_ne (by omega), Array.getElem?_setIfInBounds_self_of_lt (by simp; omega)]
  · rw [Array.getElem?_setIfInBounds_ne (by omega), Array.getElem?_setIfInBounds_self_of_lt (by simp; omega)]
  · rw [Array.getElem?_setIfInBounds_self_of_lt (by simp; omega)]
theorem put7_other {W : World} {g k : Nat} {M : Array Value} (h : W.heap[g]? = some (.cells M 34)) (s e : Int) (a b c d : Value) (m : Int) {j : Nat} {v : Value} (hj : j < k * 7 ∨ k * 7 + 7 ≤ j) (hc : W.cell? ⟨g, j, none⟩ = some v) : (put7 W g k s e a b c d m).cell? ⟨g, j, none⟩ = some v := by
  have hb := put7_blk (k := k) h s e a b c d m
  rw [cell_of_row _ _ _ _ _ _ h] at hc
  rw [cell_of_row _ _ _ _ _ _ hb, Array.getElem?_setIfInBounds_ne (by omega), Array.getElem?_setIfInBounds_ne (by omega), Array.getElem?_setIfInBounds_ne (by omega), Array.getElem?_setIfInBounds_ne (by omega), Array.getElem?_setIfInBounds_ne (by omega), Array.getElem?_setIfInBounds_ne (by omega), Array.getElem?_setIfInBounds_ne (by omega)]
  exact hc
theorem Tag7.other {W : World} {g k : Nat} {M : Array Value} (h : W.heap[g]? = some (.cells M 34)) {s e : Int} {a b c d : Value} {m : Int} {q : Nat} {s' e' : Int} {a' b' c' d' : Value} {m' : Int} (ht : Tag7 W g q s' e' a' b' c' d' m') (hq : q ≠ k) : Tag7 (put7 W g k s e a b c d m) g q s' e' a' b' c' d' m' :=
  ⟨put7_other h s e a b c d m (by omega) ht.c0, put7_other h s e a b c d m (by omega) ht.c1, put7_other h s e a b c d m (by omega) ht.c2, put7_other h s e a b c d m (by omega) ht.c3, put7_other h s e a b c d m (by omega) ht.c4, put7_other h s e a b c d m (by omega) ht.c5, put7_other h s e a b c d m (by omega) ht.c6⟩
theorem Built.put {W : World} {g n k : Nat} {T : Nat → IT} (h : Built W g n k T) (hk : k < n) : Built (put7 W g k (T k).s (T k).e (.int .i64 0) (.string (T k).ex.1) (.string (T k).ex.2) (.slice none 0 0) (T k).c) g n (k + 1) T := by
  obtain ⟨M, h1, h2⟩ := h.blk
  refine ⟨⟨_, put7_blk h1 _ _ _ _ _ _ _, by simp [h2]⟩, fun q hq => ?_⟩
  by_cases hqk : q = k
  · subst hqk
    exact put7_at h1 (by omega) _ _ _ _ _ _ _
  · exact Tag7.other h1 (h.at7 q (by omega)) hqk

theorem Ybaf_make23 (n : Nat) (hn : n ≤ 4096) : ∃ M : Array Value, M.size = n * 7 ∧ ∀ W, (Instr.makeSlice 23 (.int .i64 (n : Int)) (.int .i64 (n : Int))).run Ybaf.prog W = .ok (.slice (some ⟨W.heap.size, 0, none⟩) n n) (W.alloc (.cells M 34)) :=
  ⟨_, size_madeCells _ _, make_any Ybaf.underlying23 info34 n (by omega) (by omega)⟩

theorem eql_nil (a : Option Addr) (l c : Nat) (W : World) : (binOp .eql 22 (.slice a l c) (.slice none 0 0)).run Ybaf.prog W = .ok (.bool a.isNone) W := by
  simp only [binOp]
  simp [run_equal_slice_nil W 22 27 a l c Ybaf.underlying22]

set_option maxHeartbeats 4000000 in
set_option maxRecDepth 100000 in
theorem build_nil (w : World) : Calls Ybaf.prog 4 #[.slice none 0 0] w fun r w' => r = .returned (.slice none 0 0) ∧ w' = w := by
  have hnil : ∀ W, (binOp .eql 22 (.slice none 0 0) (.slice none 0 0)).run Ybaf.prog W = .ok (.bool true) W := eql_nil _ _ _
  go_enter Ybaf.func4, Ybaf.ntmps4
  go_wp2_with fail
  go_ret
  exact ⟨rfl, rfl⟩

set_option maxHeartbeats 4000000 in
set_option maxRecDepth 100000 in
theorem build_some (b0 o0 n cap : Nat) (T : Nat → IT) (w : World) (hin : InAt w (some ⟨b0, o0, none⟩) n T) (hn : n ≤ 4096) :
    Calls Ybaf.prog 4 #[.slice (some ⟨b0, o0, none⟩) n cap] w fun r w' => Hid (∃ g, r = .returned (.slice (some ⟨g, 0, none⟩) n n) ∧ w.heap.size ≤ g ∧ Built w' g n n T ∧ Moved w w' (fun _ => False)) := by
  obtain ⟨M, hMs, hmk⟩ := Ybaf_make23 n hn
  obtain ⟨g, hg⟩ : ∃ g, g = w.heap.size := ⟨_, rfl⟩
  have hB0 : Built (w.alloc (.cells M 34)) g n 0 T := ⟨⟨M, blk_at hg, hMs⟩, fun k hk => absurd hk (by omega)⟩
  have hgw : w.heap.size ≤ g := by omega
  have hnil : ∀ W, (binOp .eql 22 (.slice (some ⟨b0, o0, none⟩) n cap) (.slice none 0 0)).run Ybaf.prog W = .ok (.bool false) W := eql_nil _ _ _
  go_enter Ybaf.func4, Ybaf.ntmps4
  go_wp2_with fail
  rw [← hg]
  clear hmk hg
  go_loopw [12] (fun i y => Hid (∃ j : Nat, j ≤ n ∧ i = .int .i64 (j : Int) ∧ Built y g n j T ∧ Moved w y (fun _ => False))) (fun i _ => n - (intOf i).toNat)
  case atStart => exact ⟨0, by omega, rfl, hB0, Moved.alloc w _ _⟩
  case round =>
    obtain ⟨j, hj, rfl, hB, hmv⟩ := hrel.out
    clear hrel hB0
    by_cases hlt : j < n
    · obtain ⟨b, o, e1, hbl, q0, q1, q2, q3, q4, r1, r2⟩ := hin.moved hmv j hlt
      obtain ⟨rfl, rfl⟩ : b0 = b ∧ o0 = o := by simpa using e1
      clear e1
      have h6 := fun (W : World) => expr_any (.int .i64 (T j).s) (.int .i64 (T j).e) (T j).i (T j).x (.int .i64 (T j).c) W r1 r2
      obtain ⟨M', hM1, hM2⟩ := hB.blk
      have HB := hB
      generalize hT1 : (T j).s = ts at *
      generalize hT2 : (T j).e = te at *
      generalize hT3 : (T j).i = ti at *
      generalize hT4 : (T j).x = tx at *
      generalize hT5 : (T j).c = tc at *
      go_upto_region 7 with fail
      have hkS : ∀ (W : World) (o : Obj), (W.cell? ⟨b0, o0 + j * 5, none⟩ = some (.int .i64 ts) ∧ W.cell? ⟨b0, o0 + j * 5 + 1, none⟩ = some (.int .i64 te) ∧ W.cell? ⟨b0, o0 + j * 5 + 2, none⟩ = some (.int .u8 ti) ∧ W.cell? ⟨b0, o0 + j * 5 + 3, none⟩ = some (.int .u8 tx) ∧ W.cell? ⟨b0, o0 + j * 5 + 4, none⟩ = some (.int .i64 tc)) → ((W.alloc o).cell? ⟨b0, o0 + j * 5, none⟩ = some (.int .i64 ts) ∧ (W.alloc o).cell? ⟨b0, o0 + j * 5 + 1, none⟩ = some (.int .i64 te) ∧ (W.alloc o).cell? ⟨b0, o0 + j * 5 + 2, none⟩ = some (.int .u8 ti) ∧ (W.alloc o).cell? ⟨b0, o0 + j * 5 + 3, none⟩ = some (.int .u8 tx) ∧ (W.alloc o).cell? ⟨b0, o0 + j * 5 + 4, none⟩ = some (.int .i64 tc)) := fun W o h => ⟨by rw [World.cell?_alloc_lt _ _ _ (World.block_lt_of_cell? W _ h.1)]; exact h.1, by rw [World.cell?_alloc_lt _ _ _ (World.block_lt_of_cell? W _ h.2.1)]; exact h.2.1, by rw [World.cell?_alloc_lt _ _ _ (World.block_lt_of_cell? W _ h.2.2.1)]; exact h.2.2.1, by rw [World.cell?_alloc_lt _ _ _ (World.block_lt_of_cell? W _ h.2.2.2.1)]; exact h.2.2.2.1, by rw [World.cell?_alloc_lt _ _ _ (World.block_lt_of_cell? W _ h.2.2.2.2)]; exact h.2.2.2.2⟩
      refine wp_region_back (S := fun w' => w'.cell? ⟨b0, o0 + j * 5, none⟩ = some (.int .i64 ts) ∧ w'.cell? ⟨b0, o0 + j * 5 + 1, none⟩ = some (.int .i64 te) ∧ w'.cell? ⟨b0, o0 + j * 5 + 2, none⟩ = some (.int .u8 ti) ∧ w'.cell? ⟨b0, o0 + j * 5 + 3, none⟩ = some (.int .u8 tx) ∧ w'.cell? ⟨b0, o0 + j * 5 + 4, none⟩ = some (.int .i64 tc)) (by kernel_rfl) rfl (by kernel_rfl) (by kernel_rfl) (by kernel_rfl) ⟨q0, q1, q2, q3, q4⟩ (fun hS => ?_)
      refine wpAnyH_take (i := 0) (v := .slice (some ⟨g, 0, none⟩) n n) rfl (by kernel_rfl) (by kernel_rfl) (by kernel_rfl) (fun _ _ _ h => h) (Or.inl ⟨by rfl, fun W hW => ?_⟩) hS ?_
      · obtain ⟨s0, s1, s2, s3, s4⟩ := hW
        go_simp
      try simp only [Act.put, List.setIfInBounds_toArray, List.set_cons_zero, List.set_cons_succ]
      refine wpAnyH_take (i := 1) (v := .int .i64 (j : Int)) rfl (by kernel_rfl) (by kernel_rfl) (by kernel_rfl) (fun _ _ _ h => h) (Or.inl ⟨by rfl, fun W hW => ?_⟩) hS ?_
      · obtain ⟨s0, s1, s2, s3, s4⟩ := hW
        go_simp
      try simp only [Act.put, List.setIfInBounds_toArray, List.set_cons_zero, List.set_cons_succ]
      refine wpAnyH_take (i := 2) (v := .slice (some ⟨b0, o0, none⟩) n cap) rfl (by kernel_rfl) (by kernel_rfl) (by kernel_rfl) (fun _ _ _ h => h) (Or.inl ⟨by rfl, fun W hW => ?_⟩) hS ?_
      · obtain ⟨s0, s1, s2, s3, s4⟩ := hW
        go_simp
      try simp only [Act.put, List.setIfInBounds_toArray, List.set_cons_zero, List.set_cons_succ]
      refine wpAnyH_take (i := 3) (v := .int .i64 (j : Int)) rfl (by kernel_rfl) (by kernel_rfl) (by kernel_rfl) (fun _ _ _ h => h) (Or.inl ⟨by rfl, fun W hW => ?_⟩) hS ?_
      · obtain ⟨s0, s1, s2, s3, s4⟩ := hW
        go_simp
      try simp only [Act.put, List.setIfInBounds_toArray, List.set_cons_zero, List.set_cons_succ]
      refine wpAnyH_take (i := 4) (v := .pointer (some ⟨b0, o0 + j * 5, none⟩)) rfl (by kernel_rfl) (by kernel_rfl) (by kernel_rfl) (fun _ _ _ h => h) (Or.inl ⟨by rfl, fun W hW => ?_⟩) hS ?_
      · obtain ⟨s0, s1, s2, s3, s4⟩ := hW
        go_simp
      try simp only [Act.put, List.setIfInBounds_toArray, List.set_cons_zero, List.set_cons_succ]
      refine wpAnyH_take (i := 5) (v := .pointer (some ⟨b0, o0 + j * 5, none⟩)) rfl (by kernel_rfl) (by kernel_rfl) (by kernel_rfl) (fun _ _ _ h => h) (Or.inl ⟨by rfl, fun W hW => ?_⟩) hS ?_
      · obtain ⟨s0, s1, s2, s3, s4⟩ := hW
        go_simp
      try simp only [Act.put, List.setIfInBounds_toArray, List.set_cons_zero, List.set_cons_succ]
      refine wpAnyH_take (i := 6) (v := .int .i64 ts) rfl (by kernel_rfl) (by kernel_rfl) (by kernel_rfl) (fun _ _ _ h => h) (Or.inl ⟨by rfl, fun W hW => ?_⟩) hS ?_
      · obtain ⟨s0, s1, s2, s3, s4⟩ := hW
        go_simp
      try simp only [Act.put, List.setIfInBounds_toArray, List.set_cons_zero, List.set_cons_succ]
      refine wpAnyH_take (i := 7) (v := .slice (some ⟨b0, o0, none⟩) n cap) rfl (by kernel_rfl) (by kernel_rfl) (by kernel_rfl) (fun _ _ _ h => h) (Or.inl ⟨by rfl, fun W hW => ?_⟩) hS ?_
      · obtain ⟨s0, s1, s2, s3, s4⟩ := hW
        go_simp
      try simp only [Act.put, List.setIfInBounds_toArray, List.set_cons_zero, List.set_cons_succ]
      refine wpAnyH_take (i := 8) (v := .int .i64 (j : Int)) rfl (by kernel_rfl) (by kernel_rfl) (by kernel_rfl) (fun _ _ _ h => h) (Or.inl ⟨by rfl, fun W hW => ?_⟩) hS ?_
      · obtain ⟨s0, s1, s2, s3, s4⟩ := hW
        go_simp
      try simp only [Act.put, List.setIfInBounds_toArray, List.set_cons_zero, List.set_cons_succ]
      refine wpAnyH_take (i := 9) (v := .pointer (some ⟨b0, o0 + j * 5, none⟩)) rfl (by kernel_rfl) (by kernel_rfl) (by kernel_rfl) (fun _ _ _ h => h) (Or.inl ⟨by rfl, fun W hW => ?_⟩) hS ?_
      · obtain ⟨s0, s1, s2, s3, s4⟩ := hW
        go_simp
      try simp only [Act.put, List.setIfInBounds_toArray, List.set_cons_zero, List.set_cons_succ]
      refine wpAnyH_take (i := 10) (v := .pointer (some ⟨b0, o0 + j * 5 + 1, none⟩)) rfl (by kernel_rfl) (by kernel_rfl) (by kernel_rfl) (fun _ _ _ h => h) (Or.inl ⟨by rfl, fun W hW => ?_⟩) hS ?_
      · obtain ⟨s0, s1, s2, s3, s4⟩ := hW
        go_simp
      try simp only [Act.put, List.setIfInBounds_toArray, List.set_cons_zero, List.set_cons_succ]
      refine wpAnyH_take (i := 11) (v := .int .i64 te) rfl (by kernel_rfl) (by kernel_rfl) (by kernel_rfl) (fun _ _ _ h => h) (Or.inl ⟨by rfl, fun W hW => ?_⟩) hS ?_
      · obtain ⟨s0, s1, s2, s3, s4⟩ := hW
        go_simp
      try simp only [Act.put, List.setIfInBounds_toArray, List.set_cons_zero, List.set_cons_succ]
      refine wpAnyH_take (i := 12) (v := .slice (some ⟨b0, o0, none⟩) n cap) rfl (by kernel_rfl) (by kernel_rfl) (by kernel_rfl) (fun _ _ _ h => h) (Or.inl ⟨by rfl, fun W hW => ?_⟩) hS ?_
      · obtain ⟨s0, s1, s2, s3, s4⟩ := hW
        go_simp
      try simp only [Act.put, List.setIfInBounds_toArray, List.set_cons_zero, List.set_cons_succ]
      refine wpAnyH_take (i := 13) (v := .int .i64 (j : Int)) rfl (by kernel_rfl) (by kernel_rfl) (by kernel_rfl) (fun _ _ _ h => h) (Or.inl ⟨by rfl, fun W hW => ?_⟩) hS ?_
      · obtain ⟨s0, s1, s2, s3, s4⟩ := hW
        go_simp
      try simp only [Act.put, List.setIfInBounds_toArray, List.set_cons_zero, List.set_cons_succ]
      refine wpAnyH_take (i := 14) (v := .pointer (some ⟨b0, o0 + j * 5, none⟩)) rfl (by kernel_rfl) (by kernel_rfl) (by kernel_rfl) (fun _ _ _ h => h) (Or.inl ⟨by rfl, fun W hW => ?_⟩) hS ?_
      · obtain ⟨s0, s1, s2, s3, s4⟩ := hW
        go_simp
      try simp only [Act.put, List.setIfInBounds_toArray, List.set_cons_zero, List.set_cons_succ]
      refine wpAnyH_take (i := 15) (v := .agg #[.int .i64 ts, .int .i64 te, .int .u8 ti, .int .u8 tx, .int .i64 tc]) rfl (by kernel_rfl) (by kernel_rfl) (by kernel_rfl) (fun _ _ _ h => h) (Or.inl ⟨by rfl, fun W hW => ?_⟩) hS ?_
      · obtain ⟨s0, s1, s2, s3, s4⟩ := hW
        go_simp
      try simp only [Act.put, List.setIfInBounds_toArray, List.set_cons_zero, List.set_cons_succ]
      refine wpAnyH_take (i := 17) (v := .slice (some ⟨b0, o0, none⟩) n cap) rfl (by kernel_rfl) (by kernel_rfl) (by kernel_rfl) (fun _ _ _ h => h) (Or.inl ⟨by rfl, fun W hW => ?_⟩) hS ?_
      · obtain ⟨s0, s1, s2, s3, s4⟩ := hW
        go_simp
      try simp only [Act.put, List.setIfInBounds_toArray, List.set_cons_zero, List.set_cons_succ]
      refine wpAnyH_take (i := 18) (v := .int .i64 (j : Int)) rfl (by kernel_rfl) (by kernel_rfl) (by kernel_rfl) (fun _ _ _ h => h) (Or.inl ⟨by rfl, fun W hW => ?_⟩) hS ?_
      · obtain ⟨s0, s1, s2, s3, s4⟩ := hW
        go_simp
      try simp only [Act.put, List.setIfInBounds_toArray, List.set_cons_zero, List.set_cons_succ]
      refine wpAnyH_take (i := 19) (v := .pointer (some ⟨b0, o0 + j * 5, none⟩)) rfl (by kernel_rfl) (by kernel_rfl) (by kernel_rfl) (fun _ _ _ h => h) (Or.inl ⟨by rfl, fun W hW => ?_⟩) hS ?_
      · obtain ⟨s0, s1, s2, s3, s4⟩ := hW
        go_simp
      try simp only [Act.put, List.setIfInBounds_toArray, List.set_cons_zero, List.set_cons_succ]
      refine wpAnyH_take (i := 20) (v := .pointer (some ⟨b0, o0 + j * 5 + 4, none⟩)) rfl (by kernel_rfl) (by kernel_rfl) (by kernel_rfl) (fun _ _ _ h => h) (Or.inl ⟨by rfl, fun W hW => ?_⟩) hS ?_
      · obtain ⟨s0, s1, s2, s3, s4⟩ := hW
        go_simp
      try simp only [Act.put, List.setIfInBounds_toArray, List.set_cons_zero, List.set_cons_succ]
      refine wpAnyH_take (i := 21) (v := .int .i64 tc) rfl (by kernel_rfl) (by kernel_rfl) (by kernel_rfl) (fun _ _ _ h => h) (Or.inl ⟨by rfl, fun W hW => ?_⟩) hS ?_
      · obtain ⟨s0, s1, s2, s3, s4⟩ := hW
        go_simp
      try simp only [Act.put, List.setIfInBounds_toArray, List.set_cons_zero, List.set_cons_succ]
      refine wpAnyH_ready (rs := [16]) (by kernel_rfl) (by simp) (AllReadyH.cons rfl (fun K hK => ?_) AllReadyH.nil)
      rw [if_pos (by rfl)]
      go_simp
      refine (h6 _).mono ?_
      rintro r W6 ⟨rfl, rfl⟩
      refine hK.out _ _ (hkS _ _ (hkS _ _ hS)) (fun hS => ?_)
      clear hK K
      try simp only [Act.put, List.setIfInBounds_toArray, List.set_cons_zero, List.set_cons_succ]
      refine wpAnyH_take (i := 22) (v := .agg #[.int .i64 ts, .int .i64 te, .int .i64 0, .string (idT ti), .string (excT tx), .slice none 0 0, .int .i64 tc]) rfl (by kernel_rfl) (by kernel_rfl) (by kernel_rfl) (fun _ _ _ h => h) (Or.inl ⟨by rfl, fun W hW => ?_⟩) hS ?_
      · obtain ⟨s0, s1, s2, s3, s4⟩ := hW
        go_simp
      try simp only [Act.put, List.setIfInBounds_toArray, List.set_cons_zero, List.set_cons_succ]
      refine wpAnyH_take (i := 23) (v := .pointer (some ⟨g, j * 7, none⟩)) rfl (by kernel_rfl) (by kernel_rfl) (by kernel_rfl) (fun _ _ _ h => h) (Or.inl ⟨by rfl, fun W hW => ?_⟩) hS ?_
      · obtain ⟨s0, s1, s2, s3, s4⟩ := hW
        go_simp
      try simp only [Act.put, List.setIfInBounds_toArray, List.set_cons_zero, List.set_cons_succ]
      refine wpAnyH_done (by kernel_rfl) ?_ _
      unfold before
      clear hS hkS
      have hmv6 : Moved w ((wr.drew.alloc (.cells #[.int .i64 ts, .int .i64 te, .int .u8 ti, .int .u8 tx, .int .i64 tc] 27)).alloc (.cells #[.int .i64 0, .string (idT ti), .string (excT tx), .slice none 0 0] 31)).drew (fun _ => False) := ((hmv.drew.trans (Moved.alloc _ _ (fun _ => False)) (fun _ h => h.elim)).trans (Moved.alloc _ _ (fun _ => False)) (fun _ h => h.elim)).drew
      have hB6 : Built ((wr.drew.alloc (.cells #[.int .i64 ts, .int .i64 te, .int .u8 ti, .int .u8 tx, .int .i64 tc] 27)).alloc (.cells #[.int .i64 0, .string (idT ti), .string (excT tx), .slice none 0 0] 31)).drew g n j T := by
        refine hB.keep ?_
        exact (blk_alloc (blk_alloc (w := wr.drew) hM1 _) _).trans hM1.symm
      generalize ((wr.drew.alloc (.cells #[.int .i64 ts, .int .i64 te, .int .u8 ti, .int .u8 tx, .int .i64 tc] 27)).alloc (.cells #[.int .i64 0, .string (idT ti), .string (excT tx), .slice none 0 0] 31)).drew = Z at *
      clear hM1
      obtain ⟨M6, hM1, hM3⟩ := hB6.blk
      have ht : ∀ k, k < n * 7 → ∃ v, Z.cell? ⟨g, k, none⟩ = some v := fun k hk => ⟨M6[k]'(by omega), by rw [cell_of_row _ _ _ _ _ _ hM1]; simp [hM3, hk]⟩
      obtain ⟨v0, t0⟩ := ht (j * 7) (by omega)
      obtain ⟨v1, t1⟩ := ht (j * 7 + 1) (by omega)
      obtain ⟨v2, t2⟩ := ht (j * 7 + 2) (by omega)
      obtain ⟨v3, t3⟩ := ht (j * 7 + 3) (by omega)
      obtain ⟨v4, t4⟩ := ht (j * 7 + 4) (by omega)
      obtain ⟨v5, t5⟩ := ht (j * 7 + 5) (by omega)
      obtain ⟨v6, t6⟩ := ht (j * 7 + 6) (by omega)
      have tf : ∀ k, Z.frozen? ⟨g, k, none⟩ = false := fun k => frozen_of_row _ _ _ _ _ hM1
      clear ht
      go_simp
      go_wp2_with fail
      have hp := hB6.put hlt
      have hpm : Moved w (put7 Z g j (T j).s (T j).e (.int .i64 0) (.string (T j).ex.1) (.string (T j).ex.2) (.slice none 0 0) (T j).c) (fun _ => False) := hmv6.trans (put7_moved _ _ _ _ _ _ _ _ _ _) (fun b hb => .inr (by omega))
      rw [hT1, hT2, hT5, show (T j).ex = (idT ti, excT tx) by simp [IT.ex, hT3, hT4]] at hp hpm
      exact ⟨⟨j + 1, by omega, by simp, hp, hpm⟩, by simp [intOf]; omega⟩
    · have : j = n := by omega
      subst this
      go_wp2_with fail
      go_ret
      exact ⟨g, rfl, hgw, hB, hmv⟩
end Go.Proofs.YbulkexpecFmt
