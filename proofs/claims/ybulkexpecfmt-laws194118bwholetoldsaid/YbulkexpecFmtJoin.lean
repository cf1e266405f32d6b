/- LawS194118BWhole: spdx.Join (11) of an expression and a simple one. -/
import Derived.Test.YbulkexpecFmtSort
import Derived.Deep.DeepCutAuto
import Derived.Deep.CutBlock
namespace Go.Proofs.YbulkexpecFmt
open Go.RowKit Go.PK Go.Shelf Go.RegInv
set_option linter.unusedVariables false
set_option linter.unusedSimpArgs false

abbrev XE := EX ⊕ List EX
def flat : XE → List EX
  | .inl e => [e]
  | .inr es => es
/-- The four cells of an expression. -/
def XAt (w : World) (a b c d : Value) : XE → Prop
  | .inl e => a = .int .i64 0 ∧ b = .string e.1 ∧ c = .string e.2 ∧ d = .slice none 0 0
  | .inr es => a = .int .i64 1 ∧ b = .string noStr ∧ c = .string noStr ∧ 2 ≤ es.length ∧ ∃ tg cap M, d = .slice (some ⟨tg, 0, none⟩) es.length cap ∧ TermsAt w tg es ∧ w.heap[tg]? = some (.cells M 31)
theorem XAt.keep {w w' : World} {a b c d : Value} {x : XE} (h : XAt w a b c d x) (hk : ∀ (k : Nat) (M : Array Value), w.heap[k]? = some (Obj.cells M 31) → w'.heap[k]? = w.heap[k]?) : XAt w' a b c d x := by
  cases x with
  | inl e => exact h
  | inr es =>
    obtain ⟨h1, h2, h3, h4, tg, cap, M, h5, h6, h7⟩ := h
    exact ⟨h1, h2, h3, h4, tg, cap, M, h5, h6.keep fun j v hc => by rw [World.cell?_of_block (w := w) (hk tg M h7)]; exact hc, by rw [hk tg M h7]; exact h7⟩
theorem XAt.below {w w' : World} {a b c d : Value} {x : XE} (h : XAt w a b c d x) (hb : Below w.heap.size w w') : XAt w' a b c d x := h.keep fun k M hk => hb.block k (blk_lt hk)
theorem XAt.one {w : World} {a b c d : Value} {x : XE} (h : XAt w a b c d x) : a.oneCell' = true ∧ b.oneCell' = true ∧ c.oneCell' = true ∧ d.oneCell' = true := by
  cases x with
  | inl e => obtain ⟨rfl, rfl, rfl, rfl⟩ := h; exact ⟨rfl, rfl, rfl, rfl⟩
  | inr es => obtain ⟨rfl, rfl, rfl, _, tg, cap, M, rfl, _⟩ := h; exact ⟨rfl, rfl, rfl, rfl⟩

def dd (x : XE) (e : EX) : List EX := (flat x ++ [e]).foldl addL []
theorem run_store_fn' {P : Program} (w : World) (a : Addr) (m : Mode) (f : Fn) (x y : Array Value) : (store a (.func f x y) m).run P w = stored P w a (.func f x y) m := run_store P w a _ m rfl
attribute [local go_sem] run_store_fn'

def pref (x : XE) (e : EX) (j : Nat) : List EX := if j = 0 then [] else if j = 1 then flat x else flat x ++ [e]

theorem ret4 {W : World} {r : Nat} {z0 z1 z2 z3 a b c d : Value} (h : W.heap[r]? = some (.cells #[z0, z1, z2, z3] 31)) : ((((W.setCell ⟨r, 0, none⟩ a).setCell ⟨r, 1, none⟩ b).setCell ⟨r, 2, none⟩ c).setCell ⟨r, 3, none⟩ d).heap[r]? = some (.cells #[a, b, c, d] 31) :=
  blk_same (blk_same (blk_same (blk_same h 0 a) 1 b) 2 c) 3 d
def JoinOut (D : List EX) (y : XE) : Prop :=
  (D = [] ∧ y = .inl (noStr, noStr)) ∨ (∃ e0, D = [e0] ∧ y = .inl e0) ∨ (2 ≤ D.length ∧ ∃ l : List EX, y = .inr l ∧ l.Perm D ∧ l.Pairwise fun p q => ltE q p = false)

theorem put4 {W : World} {T j : Nat} {M : Array Value} (h : W.heap[T]? = some (.cells M 31)) (hm : j * 4 + 4 ≤ M.size) (es : List EX) (i x : ByteArray) (hj : j < es.length) (he : es[j] = (i, x)) (hT : TermsAt W T (es.take j)) (o : Obj) :
    ∃ M' : Array Value, (((((W.setCell ⟨T, j * 4, none⟩ (.int .i64 0)).setCell ⟨T, j * 4 + 1, none⟩ (.string i)).setCell ⟨T, j * 4 + 2, none⟩ (.string x)).setCell ⟨T, j * 4 + 3, none⟩ (.slice none 0 0)).alloc o).heap[T]? = some (.cells M' 31) ∧ M'.size = M.size ∧
      TermsAt (((((W.setCell ⟨T, j * 4, none⟩ (.int .i64 0)).setCell ⟨T, j * 4 + 1, none⟩ (.string i)).setCell ⟨T, j * 4 + 2, none⟩ (.string x)).setCell ⟨T, j * 4 + 3, none⟩ (.slice none 0 0)).alloc o) T (es.take (j + 1)) := by
  have hb := blk_alloc (blk_same (blk_same (blk_same (blk_same h (j * 4) (.int .i64 0)) (j * 4 + 1) (.string i)) (j * 4 + 2) (.string x)) (j * 4 + 3) (.slice none 0 0)) o
  refine ⟨_, hb, by simp, fun k hk => ?_⟩
  have hk' : k < j + 1 ∧ k < es.length := by rw [List.length_take] at hk; omega
  have old : k < j → ∀ d v, d < 4 → W.cell? ⟨T, k * 4 + d, none⟩ = some v → (((((W.setCell ⟨T, j * 4, none⟩ (.int .i64 0)).setCell ⟨T, j * 4 + 1, none⟩ (.string i)).setCell ⟨T, j * 4 + 2, none⟩ (.string x)).setCell ⟨T, j * 4 + 3, none⟩ (.slice none 0 0)).alloc o).cell? ⟨T, k * 4 + d, none⟩ = some v := by
    intro hkj d v hd hc
    rw [cell_of_row _ _ _ _ _ _ h] at hc
    rw [cell_of_row _ _ _ _ _ _ hb]
    rw [Array.getElem?_setIfInBounds_ne (by omega), Array.getElem?_setIfInBounds_ne (by omega), Array.getElem?_setIfInBounds_ne (by omega), Array.getElem?_setIfInBounds_ne (by omega)]
    exact hc
  by_cases hkj : k < j
  · obtain ⟨t0, t1, t2, t3⟩ := hT k (by simp [List.length_take]; omega)
    have e1 : (es.take (j + 1))[k] = es[k] := List.getElem_take
    have e2 : (es.take j)[k]'(by simp [List.length_take]; omega) = es[k] := List.getElem_take
    rw [e1]
    rw [e2] at t1 t2
    exact ⟨old hkj 0 _ (by omega) t0, old hkj 1 _ (by omega) t1, old hkj 2 _ (by omega) t2, old hkj 3 _ (by omega) t3⟩
  · have : k = j := by omega
    subst this
    have e1 : (es.take (k + 1))[k] = (i, x) := by rw [List.getElem_take]; exact he
    rw [e1]
    refine ⟨?_, ?_, ?_, ?_⟩ <;> rw [cell_of_row _ _ _ _ _ _ hb]
    · rw [Array.getElem?_setIfInBounds_ne (by omega), Array.getElem?_setIfInBounds_ne (by omega), Array.getElem?_setIfInBounds_ne (by omega), Array.getElem?_setIfInBounds_self_of_lt (by omega)]
    · rw [Array.getElem?_setIfInBounds_ne (by omega), Array.getElem?_setIfInBounds_ne (by omega), Array.getElem?_setIfInBounds_self_of_lt (by simp; omega)]
    · rw [Array.getElem?_setIfInBounds_ne (by omega), Array.getElem?_setIfInBounds_self_of_lt (by simp; omega)]
    · rw [Array.getElem?_setIfInBounds_self_of_lt (by simp; omega)]

set_option maxHeartbeats 4000000 in
set_option maxRecDepth 100000 in
theorem join_any (x : XE) (e : EX) (a b c d : Value) (tb : Nat) (w : World) (hx : XAt w a b c d x) (hs : Short (flat x)) (he : e.1.size ≤ 100 ∧ e.2.size ≤ 100) (hl : (flat x).length ≤ 9000)
    (t0 : w.cell? ⟨tb, 0, none⟩ = some a) (t1 : w.cell? ⟨tb, 1, none⟩ = some b) (t2 : w.cell? ⟨tb, 2, none⟩ = some c) (t3 : w.cell? ⟨tb, 3, none⟩ = some d)
    (t4 : w.cell? ⟨tb, 4, none⟩ = some (.int .i64 0)) (t5 : w.cell? ⟨tb, 5, none⟩ = some (.string e.1)) (t6 : w.cell? ⟨tb, 6, none⟩ = some (.string e.2)) (t7 : w.cell? ⟨tb, 7, none⟩ = some (.slice none 0 0)) :
    Calls Ybaf.prog 11 #[.int .i64 1, .slice (some ⟨tb, 0, none⟩) 2 2] w fun r w' => ∃ a' b' c' d' y, r = .returned (.agg #[a', b', c', d']) ∧ XAt w' a' b' c' d' y ∧ JoinOut (dd x e) y ∧ Below w.heap.size w w' := by
  obtain ⟨s, hsz⟩ : ∃ s, s = w.heap.size := ⟨_, rfl⟩
  obtain ⟨W0, hW0⟩ : ∃ W0, W0 = (((w.alloc (.cells #[.int .i64 1] 28)).alloc (.cells #[.int .i64 0, .string ⟨#[]⟩, .string ⟨#[]⟩, .slice none 0 0] 31)).alloc (.cells #[.slice none 0 0] 43)).alloc (.cells #[.func (.func 16) #[] #[.pointer (some ⟨s, 0, none⟩), .pointer (some ⟨s + 1 + 1 + 1, 0, none⟩), .pointer (some ⟨s + 1 + 1, 0, none⟩)]] 44) := ⟨_, rfl⟩
  have gOp : W0.heap[s]? = some (.cells #[.int .i64 1] 28) := by rw [hW0]; exact blk_alloc (blk_alloc (blk_alloc (blk_at hsz) _) _) _
  have gR : W0.heap[s + 1]? = some (.cells #[.int .i64 0, .string ⟨#[]⟩, .string ⟨#[]⟩, .slice none 0 0] 31) := by rw [hW0]; exact blk_alloc (blk_alloc (blk_at (by simp [hsz])) _) _
  have gA : W0.heap[s + 1 + 1]? = some (.cells #[.slice none 0 0] 43) := by rw [hW0]; exact blk_alloc (blk_at (by simp [hsz])) _
  have gF : W0.heap[s + 1 + 1 + 1]? = some (.cells #[addFn s (s + 1 + 1 + 1) (s + 1 + 1)] 44) := by rw [hW0]; exact blk_at (by simp [hsz])
  have hB0 : Below s w W0 := by rw [hW0, hsz]; exact ((below2 w _ _).alloc (by simp; omega) _).alloc (by simp; omega) _
  have hS0 : Hid (W0.heap.size = s + 1 + 1 + 1 + 1) := by show W0.heap.size = _; rw [hW0, hsz]; simp
  have hx0 : XAt W0 a b c d x := hx.below (by rw [← hsz]; exact hB0)
  have htb : tb < s := by rw [hsz]; exact World.block_lt_of_cell? w _ t0
  have hw0 : ∀ k v, w.cell? ⟨tb, k, none⟩ = some v → W0.cell? ⟨tb, k, none⟩ = some v := fun k v h => by rw [hB0.cell (p := ⟨tb, k, none⟩) htb]; exact h
  have u0 := hw0 _ _ t0
  have u1 := hw0 _ _ t1
  have u2 := hw0 _ _ t2
  have u3 := hw0 _ _ t3
  have u4 := hw0 _ _ t4
  have u5 := hw0 _ _ t5
  have u6 := hw0 _ _ t6
  have u7 := hw0 _ _ t7
  have c1 : W0.cell? ⟨s, 0, none⟩ = some (.int .i64 1) := by rw [cell_of_row _ _ _ _ _ _ gOp]; rfl
  have c2 : W0.cell? ⟨s + 1 + 1 + 1, 0, none⟩ = some (addFn s (s + 1 + 1 + 1) (s + 1 + 1)) := by rw [cell_of_row _ _ _ _ _ _ gF]; rfl
  have hA0 : Added W0 W0 (s + 1 + 1) s (.slice none 0 0) [] 0 := Added.start (ks := []) ⟨gA, by omega, World.ownsRow_nil _ _ _ _, fun k hk => absurd hk (by simp), fun _ => rfl⟩
  go_enter Ybaf.func11, Ybaf.ntmps11
  go_upto_block 0 with fail
  rw [← hsz, ← hW0]
  have HZ : Hid (s = w.heap.size) := hsz
  clear hsz hW0 hw0 t0 t1 t2 t3 t4 t5 t6 t7
  go_cut [8, 15] from 16 to 22 (fun _ _ y => Added W0 y (s + 1 + 1) s (.slice none 0 0) (dd x e) ((flat x).length + 1))
  case first =>
    go_wp2_with fail
    go_loopw [15] (fun i y => ∃ j : Nat, j ≤ 2 ∧ i = .int .i64 (j : Int) ∧ Added W0 y (s + 1 + 1) s (.slice none 0 0) ((pref x e j).foldl addL []) (pref x e j).length) (fun i _ => 2 - (intOf i).toNat)
    case atStart => exact ⟨0, by omega, rfl, hA0⟩
    case round =>
      obtain ⟨j, hj, rfl, hA⟩ := hrel
      have kc : ∀ (b k : Nat) (v : Value), b ≠ s + 1 + 1 → W0.cell? ⟨b, k, none⟩ = some v → wr.cell? ⟨b, k, none⟩ = some v := fun b k v hne h => hA.mv.cell h (by rintro (e | e); exact hne e; simp [Value.ownBlock] at e)
      have ka : ∀ (b k : Nat) (v : Value) (o : Obj), wr.cell? ⟨b, k, none⟩ = some v → (wr.alloc o).cell? ⟨b, k, none⟩ = some v := fun b k v o hc => by rw [World.cell?_alloc_lt _ _ _ (World.block_lt_of_cell? wr _ hc)]; exact hc
      have q1 := kc _ _ _ (by omega) c1
      have q2 := kc _ _ _ (by omega) c2
      have hj3 : j = 0 ∨ j = 1 ∨ j = 2 := by omega
      rcases hj3 with rfl | rfl | rfl
      · have p0 := kc _ _ _ (by omega) u0
        have p1 := kc _ _ _ (by omega) u1
        have p2 := kc _ _ _ (by omega) u2
        have p3 := kc _ _ _ (by omega) u3
        cases x with
        | inl e1 =>
          obtain ⟨rfl, rfl, rfl, rfl⟩ := hx0
          have q3 := ka _ _ _ (.cells #[.int .i64 0, .string e1.1, .string e1.2, .slice none 0 0] 31) q2
          have q4 := ka _ _ _ (.cells #[.int .i64 0, .string e1.1, .string e1.2, .slice none 0 0] 31) q1
          have hst := add_step (hA.alloc (.cells #[.int .i64 0, .string e1.1, .string e1.2, .slice none 0 0] 31)) e1.1 e1.2 s (s + 1 + 1 + 1) q4 (by simp [pref]) (hs e1 (by simp [flat])).1 (hs e1 (by simp [flat])).2 (by have := blk_lt gOp; omega)
          unfold addFn at q3
          clear q1 q2 ka kc
          go_wp2_with (go_at_call 16; refine hst.mono ?_)
          intro r x1 hp
          obtain ⟨rfl, hA1⟩ := hp.out
          clear hp hst
          go_wp2_with fail
          exact ⟨⟨1, by omega, by simp, hA1⟩, by simp [intOf]⟩
        | inr es =>
          obtain ⟨rfl, rfl, rfl, h2, tg, cap, M0, rfl, hT, htgb⟩ := hx0
          have htg := blk_lt htgb
          obtain ⟨_, _, _, _, tg', cap', M1, etg, _, htgwb⟩ := hx
          have htgw := blk_lt htgwb
          obtain ⟨rfl, rfl⟩ : tg = tg' ∧ cap = cap' := by simpa using etg
          rw [← HZ.out] at htgw
          have q3 := ka _ _ _ (.cells #[.int .i64 1, .string noStr, .string noStr, .slice (some ⟨tg, 0, none⟩) es.length cap] 31) q2
          have q4 := ka _ _ _ (.cells #[.int .i64 1, .string noStr, .string noStr, .slice (some ⟨tg, 0, none⟩) es.length cap] 31) q1
          have hT1 := hT.keep (w' := wr.alloc (.cells #[.int .i64 1, .string noStr, .string noStr, .slice (some ⟨tg, 0, none⟩) es.length cap] 31)) fun k v hc => ka _ _ _ _ (kc _ _ _ (by omega) hc)
          have hst := add_and es [] s (s + 1 + 1 + 1) (s + 1 + 1) tg s 0 cap (.slice none 0 0) W0 _ (hA.alloc (.cells #[.int .i64 1, .string noStr, .string noStr, .slice (some ⟨tg, 0, none⟩) es.length cap] 31)) hT1 hs q4 q3 (by have : es.length ≤ 9000 := hl; omega) (by have := blk_lt gOp; omega)
            ⟨by omega, by simp [Value.ownBlock], blk_lt gOp⟩ ⟨by omega, by simp [Value.ownBlock], blk_lt gF⟩ ⟨by omega, by simp [Value.ownBlock], htg⟩ c1 c2 hT
          unfold addFn at q3
          clear q1 q2 ka kc hT1
          go_wp2_with (go_at_call 16; refine hst.mono ?_)
          intro r x1 hp
          obtain ⟨rfl, hA1⟩ := hp.out
          clear hp hst
          go_wp2_with fail
          refine ⟨⟨1, by omega, by simp, ?_⟩, by simp [intOf]⟩
          rw [Nat.zero_add] at hA1
          exact hA1
      · have p0 := kc _ _ _ (by omega) u4
        have p1 := kc _ _ _ (by omega) u5
        have p2 := kc _ _ _ (by omega) u6
        have p3 := kc _ _ _ (by omega) u7
        have q3 := ka _ _ _ (.cells #[.int .i64 0, .string e.1, .string e.2, .slice none 0 0] 31) q2
        have q4 := ka _ _ _ (.cells #[.int .i64 0, .string e.1, .string e.2, .slice none 0 0] 31) q1
        have hst := add_step (hA.alloc (.cells #[.int .i64 0, .string e.1, .string e.2, .slice none 0 0] 31)) e.1 e.2 s (s + 1 + 1 + 1) q4 (by simp [pref]; omega) he.1 he.2 (by have := blk_lt gOp; omega)
        unfold addFn at q3
        clear q1 q2 ka kc
        go_wp2_with (go_at_call 16; refine hst.mono ?_)
        intro r x1 hp
        obtain ⟨rfl, hA1⟩ := hp.out
        clear hp hst
        go_wp2_with fail
        refine ⟨⟨2, by omega, by simp, ?_⟩, by simp [intOf]⟩
        have e1 : (pref x e 2).foldl addL [] = addL ((pref x e 1).foldl addL []) (e.1, e.2) := by simp [pref]
        have e2 : (pref x e 2).length = (pref x e 1).length + 1 := by simp [pref]
        rw [e1, e2]
        exact hA1
      · go_wp2_with fail
        go_meet
        have e2 : (pref x e 2).length = (flat x).length + 1 := by simp [pref]
        rw [e2] at hA
        exact hA
  case rest =>
    obtain ⟨⟨av, ks, hK, hD, hn, hav⟩, hMv⟩ := hcut
    have hRb : wc.heap[s + 1]? = some (.cells #[.int .i64 0, .string ⟨#[]⟩, .string ⟨#[]⟩, .slice none 0 0] 31) := hMv.blk gR (by rintro (e | e); omega; simp [Value.ownBlock] at e)
    have hOb : wc.heap[s]? = some (.cells #[.int .i64 1] 28) := hMv.blk gOp (by rintro (e | e); omega; simp [Value.ownBlock] at e)
    have hBw : Below s w wc := hB0.trans (hMv.below (by rw [hS0.out]; omega) (by rintro b (e | e); omega; simp [Value.ownBlock] at e))
    have hsw : s ≤ wc.heap.size := by have := blk_lt hOb; omega
    clear hMv hA0 c1 c2 u0 u1 u2 u3 u4 u5 u6 u7 gA gF gOp gR hB0 hx0 hx
    generalize wc = X at *
    have a0 : X.cell? ⟨s + 1 + 1, 0, none⟩ = some av := by rw [cell_of_row _ _ _ _ _ _ hK.blk]; rfl
    have z0 : X.cell? ⟨s + 1, 0, none⟩ = some (.int .i64 0) := by rw [cell_of_row _ _ _ _ _ _ hRb]; rfl
    have z1 : X.cell? ⟨s + 1, 1, none⟩ = some (.string ⟨#[]⟩) := by rw [cell_of_row _ _ _ _ _ _ hRb]; rfl
    have z2 : X.cell? ⟨s + 1, 2, none⟩ = some (.string ⟨#[]⟩) := by rw [cell_of_row _ _ _ _ _ _ hRb]; rfl
    have z3 : X.cell? ⟨s + 1, 3, none⟩ = some (.slice none 0 0) := by rw [cell_of_row _ _ _ _ _ _ hRb]; rfl
    have zf : ∀ j, X.frozen? ⟨s + 1, j, none⟩ = false := fun j => frozen_of_row _ _ j _ 31 hRb
    have hB4 : ∀ a b c d : Value, Below s w ((((X.setCell ⟨s + 1, 0, none⟩ a).setCell ⟨s + 1, 1, none⟩ b).setCell ⟨s + 1, 2, none⟩ c).setCell ⟨s + 1, 3, none⟩ d) := fun a b c d =>
      (((hBw.setCell (by show s ≤ s + 1; omega) _).setCell (by show s ≤ s + 1; omega) _).setCell (by show s ≤ s + 1; omega) _).setCell (by show s ≤ s + 1; omega) _
    have hlenk : ks.length ≤ 9001 := by omega
    match hks : ks, hK, hD with
    | [], hK, hD =>
      have := hK.nil rfl
      subst this
      go_wp2_with fail
      refine bodyPost_ret (res31 (p := 4) rfl _ _ (s + 1) #[.int .i64 0, .string ⟨#[]⟩, .string ⟨#[]⟩, .slice none 0 0] rfl (ret4 hRb) rfl) rfl ?_
      have hxx : XAt ((((X.setCell ⟨s + 1, 0, none⟩ (.int .i64 0)).setCell ⟨s + 1, 1, none⟩ (.string ⟨#[]⟩)).setCell ⟨s + 1, 2, none⟩ (.string ⟨#[]⟩)).setCell ⟨s + 1, 3, none⟩ (.slice none 0 0)) (.int .i64 0) (.string ⟨#[]⟩) (.string ⟨#[]⟩) (.slice none 0 0) (Sum.inl (noStr, noStr)) := ⟨rfl, rfl, rfl, rfl⟩
      have hjo : JoinOut (dd x e) (Sum.inl (noStr, noStr)) := .inl ⟨hD.symm, rfl⟩
      have hbb : Below w.heap.size w ((((X.setCell ⟨s + 1, 0, none⟩ (.int .i64 0)).setCell ⟨s + 1, 1, none⟩ (.string ⟨#[]⟩)).setCell ⟨s + 1, 2, none⟩ (.string ⟨#[]⟩)).setCell ⟨s + 1, 3, none⟩ (.slice none 0 0)) := by rw [← HZ.out]; exact hB4 _ _ _ _
      first
        | exact ⟨_, _, _, _, _, rfl, hxx, hjo, hbb⟩
        | exact ⟨_, _, _, _, rfl, _, hxx, hjo, hbb⟩
    | [k], hK, hD =>
      obtain ⟨g, cap, rfl, hBg, hgl, hga, hcell⟩ := hK.cell (by simp)
      have r0 : X.cell? ⟨g, 0, none⟩ = some (.int .i64 0) := hcell 0 (by simp) 0 _ rfl
      have r1 : X.cell? ⟨g, 1, none⟩ = some (.string k.1) := hcell 0 (by simp) 1 _ rfl
      have r2 : X.cell? ⟨g, 2, none⟩ = some (.string k.2.1) := hcell 0 (by simp) 2 _ rfl
      have r3 : X.cell? ⟨g, 3, none⟩ = some (.slice none 0 0) := hcell 0 (by simp) 3 _ rfl
      clear hcell
      go_wp2_with fail
      exact bodyPost_ret (res31 (p := 4) rfl _ _ (s + 1) #[.int .i64 0, .string k.1, .string k.2.1, .slice none 0 0] rfl (ret4 hRb) rfl) rfl ⟨_, _, _, _, .inl (k.1, k.2.1), rfl, ⟨rfl, rfl, rfl, rfl⟩, .inr (.inl ⟨_, hD.symm, rfl⟩), by rw [← HZ.out]; exact hB4 _ _ _ _⟩
    | k0 :: k1 :: kr, hK, hD =>
      rw [← hks] at hK hD hlenk
      have h2 : 2 ≤ ks.length := by rw [hks]; simp
      clear hks hB4
      obtain ⟨g, cap, rfl, hBg, hgl, hga, hcell⟩ := hK.cell (by intro e; rw [e] at h2; simp at h2)
      have hq0 : ((ks.length : Int) == 0) = false := beq_eq_false_iff_ne.2 (by omega)
      have hq1 : ((ks.length : Int) == 1) = false := beq_eq_false_iff_ne.2 (by omega)
      have hne0 : ks ≠ [] := by intro e; rw [e] at h2; simp at h2
      have hso := sort_any X (s + 1 + 1) s g cap ks hK hne0 (by omega)
      go_upto_region 15 with (go_at_call 21; refine hso.mono ?_)
      intro r Y hp
      obtain ⟨rfl, l, hperm, hpw, hrow, hmvY⟩ := hp.out
      clear hp hso
      obtain ⟨cur, hgX, _, _, _, _, _⟩ := own_blk hK.row
      have hOb1 : Y.heap[s]? = some (.cells #[.int .i64 1] 28) := hmvY.blk hOb (by intro e; subst e; rw [hOb] at hgX; cases hgX)
      have hRb1 : Y.heap[s + 1]? = some (.cells #[.int .i64 0, .string ⟨#[]⟩, .string ⟨#[]⟩, .slice none 0 0] 31) := hmvY.blk hRb (by intro e; subst e; rw [hRb] at hgX; cases hgX)
      have hAb1 : Y.heap[s + 1 + 1]? = some (.cells #[.slice (some ⟨g, 0, none⟩) ks.length cap] 43) := hmvY.blk hK.blk (fun e => hga e.symm)
      have hBw1 : Below s w Y := hBw.trans (hmvY.below hsw (by intro b hb; omega))
      have hlen : l.length = ks.length := hperm.length_eq
      have hszY := hmvY.size
      have hD1 : (exs l).Perm (dd x e) := by rw [← hD]; exact hperm.map _
      have hgne : g ≠ s + 1 := by intro e; subst e; rw [hRb] at hgX; cases hgX
      have hlY : s + 1 + 1 < Y.heap.size := blk_lt hAb1
      clear hK hOb hRb a0 z0 z1 z2 z3 zf hcell hBw hgX hD hperm hmvY
      have hgY : g < Y.heap.size := by omega
      go_upto_region 15 with fail
      go_cut [9] from 36 to 40 (fun v9 y => Hid (∃ N T M, v9 = .pointer (some ⟨N, 0, none⟩) ∧ y.heap[N]? = some (.cells #[.int .i64 1, .string ⟨#[]⟩, .string ⟨#[]⟩, .slice (some ⟨T, 0, none⟩) ks.length ks.length] 31) ∧ y.heap[T]? = some (.cells M 31) ∧ M.size = ks.length * 4 ∧ T ≠ N ∧ Y.heap.size ≤ T ∧ Y.heap.size ≤ N ∧ Moved Y y (fun _ => False)))
      case first =>
        have e0 : Y.drew.cell? ⟨s, 0, none⟩ = some (.int .i64 1) := by show Y.cell? _ = _; rw [cell_of_row _ _ _ _ _ _ hOb1]; rfl
        have e1 : Y.drew.cell? ⟨s + 1 + 1, 0, none⟩ = some (.slice (some ⟨g, 0, none⟩) ks.length cap) := by show Y.cell? _ = _; rw [cell_of_row _ _ _ _ _ _ hAb1]; rfl
        obtain ⟨M, hMs, hmk⟩ : ∃ M : Array Value, M.size = ks.length * 4 ∧ ∀ W, (Instr.makeSlice 29 (.int .i64 (ks.length : Int)) (.int .i64 (ks.length : Int))).run Ybaf.prog W = .ok (.slice (some ⟨W.heap.size, 0, none⟩) ks.length ks.length) (W.alloc (.cells M 31)) :=
          ⟨_, size_madeCells _ _, make_any Ybaf.underlying29 info31 ks.length (by omega) (by omega)⟩
        have hk1 : ∀ (W : World) (o : Obj), (W.cell? ⟨s, 0, none⟩ = some (.int .i64 1) ∧ W.cell? ⟨s + 1 + 1, 0, none⟩ = some (.slice (some ⟨g, 0, none⟩) ks.length cap)) → ((W.alloc o).cell? ⟨s, 0, none⟩ = some (.int .i64 1) ∧ (W.alloc o).cell? ⟨s + 1 + 1, 0, none⟩ = some (.slice (some ⟨g, 0, none⟩) ks.length cap)) := fun W o h =>
          ⟨by rw [World.cell?_alloc_lt _ _ _ (World.block_lt_of_cell? W _ h.1)]; exact h.1, by rw [World.cell?_alloc_lt _ _ _ (World.block_lt_of_cell? W _ h.2)]; exact h.2⟩
        refine wp_region_back (S := fun w' => w'.cell? ⟨s, 0, none⟩ = some (.int .i64 1) ∧ w'.cell? ⟨s + 1 + 1, 0, none⟩ = some (.slice (some ⟨g, 0, none⟩) ks.length cap)) (by kernel_rfl) rfl (by kernel_rfl) (by kernel_rfl) (by kernel_rfl) ⟨e0, e1⟩ (fun hS => ?_)
        refine wpAnyH_take (i := 0) (v := .int .i64 1) rfl (by kernel_rfl) (by kernel_rfl) (by kernel_rfl) (fun _ _ _ h => h) (Or.inl ⟨by rfl, fun W hW => ?_⟩) hS ?_
        · obtain ⟨s0, s1⟩ := hW
          go_simp
        try simp only [Act.put, List.setIfInBounds_toArray, List.set_cons_zero, List.set_cons_succ]
        refine wpAnyH_take (i := 1) (v := .slice (some ⟨g, 0, none⟩) ks.length cap) rfl (by kernel_rfl) (by kernel_rfl) (by kernel_rfl) (fun _ _ _ h => h) (Or.inl ⟨by rfl, fun W hW => ?_⟩) hS ?_
        · obtain ⟨s0, s1⟩ := hW
          go_simp
        try simp only [Act.put, List.setIfInBounds_toArray, List.set_cons_zero, List.set_cons_succ]
        refine wpAnyH_take (i := 2) (v := .int .i64 (ks.length : Int)) rfl (by kernel_rfl) (by kernel_rfl) (by kernel_rfl) (fun _ _ _ h => h) (Or.inl ⟨by rfl, fun W hW => ?_⟩) hS ?_
        · obtain ⟨s0, s1⟩ := hW
          go_simp
        try simp only [Act.put, List.setIfInBounds_toArray, List.set_cons_zero, List.set_cons_succ]
        refine wpAnyH_ready (rs := [3, 5]) (by kernel_rfl) (by simp) (AllReadyH.cons rfl (fun K hK => ?_) (AllReadyH.cons rfl (fun K hK => ?_) AllReadyH.nil))
        · rw [if_pos (by rfl)]
          go_simp
          refine hK.out _ _ (hk1 _ _ hS) (fun hS => ?_)
          clear hK K
          try simp only [Act.put, List.setIfInBounds_toArray, List.set_cons_zero, List.set_cons_succ]
          refine wpAnyH_take (i := 4) (v := .agg #[.int .i64 1, .string ⟨#[]⟩, .string ⟨#[]⟩, .slice (some ⟨Y.heap.size, 0, none⟩) ks.length ks.length]) rfl (by kernel_rfl) (by kernel_rfl) (by kernel_rfl) (fun _ _ _ h => h) (Or.inl ⟨by rfl, fun W hW => ?_⟩) hS ?_
          · obtain ⟨s0, s1⟩ := hW
            go_simp
          try simp only [Act.put, List.setIfInBounds_toArray, List.set_cons_zero, List.set_cons_succ]
          refine wpAnyH_ready (rs := [5]) (by kernel_rfl) (by simp) (AllReadyH.cons rfl (fun K hK => ?_) AllReadyH.nil)
          rw [if_pos (by rfl)]
          go_simp
          refine hK.out _ _ (hk1 _ _ hS) (fun hS => ?_)
          clear hK K
          try simp only [Act.put, List.setIfInBounds_toArray, List.set_cons_zero, List.set_cons_succ]
          refine wpAnyH_done (by kernel_rfl) ?_ _
          unfold before
          clear hS hk1
          go_simp
          go_wp2_with fail
          go_meet
          exact ⟨_, _, M, rfl, blk_at (by simp), blk_alloc (blk_new Y _) _, hMs, by omega, by omega, by omega, ((Moved.alloc Y _ _).trans (Moved.alloc _ _ (fun _ => False)) fun _ h => h.elim).drew⟩
        · rw [if_pos (by rfl)]
          go_simp
          refine hK.out _ _ (hk1 _ _ hS) (fun hS => ?_)
          clear hK K
          try simp only [Act.put, List.setIfInBounds_toArray, List.set_cons_zero, List.set_cons_succ]
          refine wpAnyH_ready (rs := [3]) (by kernel_rfl) (by simp) (AllReadyH.cons rfl (fun K hK => ?_) AllReadyH.nil)
          rw [if_pos (by rfl)]
          go_simp
          refine hK.out _ _ (hk1 _ _ hS) (fun hS => ?_)
          clear hK K
          try simp only [Act.put, List.setIfInBounds_toArray, List.set_cons_zero, List.set_cons_succ]
          refine wpAnyH_take (i := 4) (v := .agg #[.int .i64 1, .string ⟨#[]⟩, .string ⟨#[]⟩, .slice (some ⟨Y.heap.size + 1, 0, none⟩) ks.length ks.length]) rfl (by kernel_rfl) (by kernel_rfl) (by kernel_rfl) (fun _ _ _ h => h) (Or.inl ⟨by rfl, fun W hW => ?_⟩) hS ?_
          · obtain ⟨s0, s1⟩ := hW
            go_simp
          try simp only [Act.put, List.setIfInBounds_toArray, List.set_cons_zero, List.set_cons_succ]
          refine wpAnyH_done (by kernel_rfl) ?_ _
          unfold before
          clear hS hk1
          go_simp
          go_wp2_with fail
          go_meet
          exact ⟨_, _, M, rfl, blk_alloc (blk_new Y _) _, blk_at (by simp), hMs, by omega, by omega, by omega, ((Moved.alloc Y _ _).trans (Moved.alloc _ _ (fun _ => False)) fun _ h => h.elim).drew⟩
      case rest =>
        obtain ⟨N, T, M, rfl, hN, hT, hMs, hTN, hYT, hYN, hmv⟩ := hcut.out
        clear hcut
        have a1 : ∀ W : World, Moved Y W (fun _ => False) → W.cell? ⟨s + 1 + 1, 0, none⟩ = some (.slice (some ⟨g, 0, none⟩) ks.length cap) := fun W h => h.cell (by rw [cell_of_row _ _ _ _ _ _ hAb1]; rfl) (fun h => h)
        have a2 := a1 _ hmv
        generalize wc = Z at *
        go_wp2_with fail
        go_loopw [43] (fun i y => Hid (∃ (j : Nat) (M' : Array Value), j ≤ ks.length ∧ i = .int .i64 (j : Int) ∧ y.heap[N]? = some (.cells #[.int .i64 1, .string ⟨#[]⟩, .string ⟨#[]⟩, .slice (some ⟨T, 0, none⟩) ks.length ks.length] 31) ∧ y.heap[T]? = some (.cells M' 31) ∧ M'.size = ks.length * 4 ∧ TermsAt y T ((exs l).take j) ∧ Moved Y y (fun _ => False))) (fun i _ => ks.length - (intOf i).toNat)
        case atStart => exact ⟨0, M, by omega, rfl, hN, hT, hMs, (by intro j hj; simp at hj), hmv⟩
        case round =>
          obtain ⟨j, M', hj, rfl, hN', hT', hMs', hTA, hmv'⟩ := hrel.out
          clear hrel
          by_cases hlt : j < ks.length
          · have hx1 := hlt
            clear hx1
            have hjl : j < l.length := by omega
            have kr : ∀ i v, (l[j].enc)[i]? = some v → wr.cell? ⟨g, 0 + j * 6 + i, none⟩ = some v := fun i v h => hmv'.cell (hrow j hjl i v h) (fun h => h)
            have ka : ∀ (b k : Nat) (v : Value) (o : Obj), wr.cell? ⟨b, k, none⟩ = some v → (wr.alloc o).cell? ⟨b, k, none⟩ = some v := fun b k v o hc => by rw [World.cell?_alloc_lt _ _ _ (World.block_lt_of_cell? wr _ hc)]; exact hc
            have r0 : wr.cell? ⟨g, j * 6, none⟩ = some (.int .i64 0) := by have := kr 0 _ rfl; rwa [Nat.zero_add] at this
            have r1 : wr.cell? ⟨g, j * 6 + 1, none⟩ = some (.string l[j].1) := by have := kr 1 _ rfl; rwa [Nat.zero_add] at this
            have r2 : wr.cell? ⟨g, j * 6 + 2, none⟩ = some (.string l[j].2.1) := by have := kr 2 _ rfl; rwa [Nat.zero_add] at this
            have r3 : wr.cell? ⟨g, j * 6 + 3, none⟩ = some (.slice none 0 0) := by have := kr 3 _ rfl; rwa [Nat.zero_add] at this
            have r4 : wr.cell? ⟨g, j * 6 + 4, none⟩ = some (.slice (some ⟨l[j].2.2, 0, none⟩) 1 1) := by have := kr 4 _ rfl; rwa [Nat.zero_add] at this
            have r5 : wr.cell? ⟨g, j * 6 + 5, none⟩ = some (.string (textOf l[j].1 l[j].2.1)) := by have := kr 5 _ rfl; rwa [Nat.zero_add] at this
            have n3 : wr.cell? ⟨N, 3, none⟩ = some (.slice (some ⟨T, 0, none⟩) ks.length ks.length) := by rw [cell_of_row _ _ _ _ _ _ hN']; rfl
            have hq : ∀ o, (wr.alloc o).cell? ⟨N, 3, none⟩ = some (.slice (some ⟨T, 0, none⟩) ks.length ks.length) := fun o => ka _ _ _ _ n3
            have ht : ∀ k, k < ks.length * 4 → ∃ v, wr.cell? ⟨T, k, none⟩ = some v := fun k hk => ⟨M'[k]'(by omega), by rw [cell_of_row _ _ _ _ _ _ hT']; simp [hMs', hk]⟩
            obtain ⟨v0, t0⟩ := ht (j * 4) (by omega)
            obtain ⟨v1, t1⟩ := ht (j * 4 + 1) (by omega)
            obtain ⟨v2, t2⟩ := ht (j * 4 + 2) (by omega)
            obtain ⟨v3, t3⟩ := ht (j * 4 + 3) (by omega)
            have t0' := fun o => ka _ _ _ o t0
            have t1' := fun o => ka _ _ _ o t1
            have t2' := fun o => ka _ _ _ o t2
            have t3' := fun o => ka _ _ _ o t3
            have hTl := blk_lt hT'
            have tf : ∀ k, wr.frozen? ⟨T, k, none⟩ = false := fun k => frozen_of_row _ _ _ _ _ hT'
            have tf' : ∀ k o, (wr.alloc o).frozen? ⟨T, k, none⟩ = false := fun k o => frozen_of_row _ _ _ _ _ (blk_alloc hT' o)
            have hne : T ≠ wr.heap.size := by omega
            generalize hlj : l[j] = kk at *
            clear ht kr ka
            go_wp2_with fail
            have hln : j < (exs l).length := by simp [exs]; omega
            obtain ⟨M2, p1, p2, p3⟩ := put4 hT' (by omega) (exs l) kk.1 kk.2.1 hln (by simp [exs, hlj]) hTA (.cells #[.int .i64 0, .string kk.1, .string kk.2.1, .slice none 0 0, .slice (some ⟨kk.2.2, 0, none⟩) 1 1, .string (textOf kk.1 kk.2.1)] 49)
            refine ⟨⟨j + 1, M2, by omega, by simp, ?_, p1, by omega, p3, ?_⟩, by simp [intOf]; omega⟩
            · exact blk_alloc (blk_set (blk_set (blk_set (blk_set hN' (fun e => hTN e.symm) _) (fun e => hTN e.symm) _) (fun e => hTN e.symm) _) (fun e => hTN e.symm) _) _
            · exact ((((hmv'.trans (Moved.setCell _ _ _) (fun b hb => .inr (by rw [hb]; exact hYT))).trans (Moved.setCell _ _ _) (fun b hb => .inr (by rw [hb]; exact hYT))).trans (Moved.setCell _ _ _) (fun b hb => .inr (by rw [hb]; exact hYT))).trans (Moved.setCell _ _ _) (fun b hb => .inr (by rw [hb]; exact hYT))).trans (Moved.alloc _ _ (fun _ => False)) (fun _ h => h.elim)
          · have hx1 : j = ks.length := by omega
            subst hx1
            have n0 : wr.cell? ⟨N, 0, none⟩ = some (.int .i64 1) := by rw [cell_of_row _ _ _ _ _ _ hN']; rfl
            have n1 : wr.cell? ⟨N, 1, none⟩ = some (.string ⟨#[]⟩) := by rw [cell_of_row _ _ _ _ _ _ hN']; rfl
            have n2 : wr.cell? ⟨N, 2, none⟩ = some (.string ⟨#[]⟩) := by rw [cell_of_row _ _ _ _ _ _ hN']; rfl
            have n3 : wr.cell? ⟨N, 3, none⟩ = some (.slice (some ⟨T, 0, none⟩) ks.length ks.length) := by rw [cell_of_row _ _ _ _ _ _ hN']; rfl
            have hRw : wr.heap[s + 1]? = some (.cells #[.int .i64 0, .string ⟨#[]⟩, .string ⟨#[]⟩, .slice none 0 0] 31) := hmv'.blk hRb1 (fun h => h)
            have z0 : wr.cell? ⟨s + 1, 0, none⟩ = some (.int .i64 0) := by rw [cell_of_row _ _ _ _ _ _ hRw]; rfl
            have z1 : wr.cell? ⟨s + 1, 1, none⟩ = some (.string ⟨#[]⟩) := by rw [cell_of_row _ _ _ _ _ _ hRw]; rfl
            have z2 : wr.cell? ⟨s + 1, 2, none⟩ = some (.string ⟨#[]⟩) := by rw [cell_of_row _ _ _ _ _ _ hRw]; rfl
            have z3 : wr.cell? ⟨s + 1, 3, none⟩ = some (.slice none 0 0) := by rw [cell_of_row _ _ _ _ _ _ hRw]; rfl
            have zf : ∀ j, wr.frozen? ⟨s + 1, j, none⟩ = false := fun j => frozen_of_row _ _ j _ 31 hRw
            go_wp2_with fail
            have hTs : T ≠ s + 1 := by omega
            refine bodyPost_ret (res31 (p := 4) rfl _ _ (s + 1) #[.int .i64 1, .string ⟨#[]⟩, .string ⟨#[]⟩, .slice (some ⟨T, 0, none⟩) ks.length ks.length] rfl (ret4 hRw) rfl) rfl ?_
            have hlE : (exs l).length = ks.length := by simp [exs, hlen]
            have htk : (exs l).take ks.length = exs l := by rw [← hlE]; exact List.take_length
            rw [htk] at hTA
            have hxx : XAt ((((wr.setCell ⟨s + 1, 0, none⟩ (.int .i64 1)).setCell ⟨s + 1, 1, none⟩ (.string ⟨#[]⟩)).setCell ⟨s + 1, 2, none⟩ (.string ⟨#[]⟩)).setCell ⟨s + 1, 3, none⟩ (.slice (some ⟨T, 0, none⟩) ks.length ks.length)) (.int .i64 1) (.string ⟨#[]⟩) (.string ⟨#[]⟩) (.slice (some ⟨T, 0, none⟩) ks.length ks.length) (.inr (exs l)) := by
              refine ⟨rfl, rfl, rfl, by omega, T, ks.length, M', by rw [hlE], hTA.keep fun k v hc => ?_, ?_⟩
              · have hh := (((Moved.setCell wr ⟨s + 1, 0, none⟩ (.int .i64 1)).trans (M' := fun b => b = s + 1) (Moved.setCell _ ⟨s + 1, 1, none⟩ (.string ⟨#[]⟩)) (fun _ h => .inl h)).trans (M' := fun b => b = s + 1) (Moved.setCell _ ⟨s + 1, 2, none⟩ (.string ⟨#[]⟩)) (fun _ h => .inl h)).trans (M' := fun b => b = s + 1) (Moved.setCell _ ⟨s + 1, 3, none⟩ (.slice (some ⟨T, 0, none⟩) ks.length ks.length)) (fun _ h => .inl h)
                exact hh.cell hc (fun e => hTs e)
              · exact blk_set (blk_set (blk_set (blk_set hT' hTs _) hTs _) hTs _) hTs _
            have hjo : JoinOut (dd x e) (.inr (exs l)) := by
              refine .inr (.inr ⟨by rw [← hD1.length_eq]; omega, exs l, rfl, hD1, ?_⟩)
              unfold exs
              rw [List.pairwise_map]
              exact hpw
            have hbb : Below w.heap.size w ((((wr.setCell ⟨s + 1, 0, none⟩ (.int .i64 1)).setCell ⟨s + 1, 1, none⟩ (.string ⟨#[]⟩)).setCell ⟨s + 1, 2, none⟩ (.string ⟨#[]⟩)).setCell ⟨s + 1, 3, none⟩ (.slice (some ⟨T, 0, none⟩) ks.length ks.length)) := by
              rw [← HZ.out]
              have hb0 : Below s w wr := hBw1.trans (hmv'.below (by omega) (fun _ h => h.elim))
              exact (((hb0.setCell (by show s ≤ s + 1; omega) _).setCell (by show s ≤ s + 1; omega) _).setCell (by show s ≤ s + 1; omega) _).setCell (by show s ≤ s + 1; omega) _
            first
              | exact ⟨_, _, _, _, _, rfl, hxx, hjo, hbb⟩
              | exact ⟨_, _, _, _, rfl, _, hxx, hjo, hbb⟩
end Go.Proofs.YbulkexpecFmt
