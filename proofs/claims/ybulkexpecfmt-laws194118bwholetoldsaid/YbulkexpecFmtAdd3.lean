/- LawS194118BWhole: spdx.Join's closure add (16) at an AND of simple expressions. -/
import Derived.Test.YbulkexpecFmtAdd2
namespace Go.Proofs.YbulkexpecFmt
open Go.RowKit Go.PK Go.Shelf Go.RegInv
set_option linter.unusedVariables false

/-- The terms of an AND, in block tg. -/
def TermsAt (w : World) (tg : Nat) (es : List EX) : Prop :=
  ∀ j, (hj : j < es.length) → w.cell? ⟨tg, j * 4, none⟩ = some (.int .i64 0) ∧ w.cell? ⟨tg, j * 4 + 1, none⟩ = some (.string es[j].1) ∧ w.cell? ⟨tg, j * 4 + 2, none⟩ = some (.string es[j].2) ∧ w.cell? ⟨tg, j * 4 + 3, none⟩ = some (.slice none 0 0)
theorem TermsAt.keep {w w' : World} {tg : Nat} {es : List EX} (h : TermsAt w tg es) (hk : ∀ j v, w.cell? ⟨tg, j, none⟩ = some v → w'.cell? ⟨tg, j, none⟩ = some v) : TermsAt w' tg es := fun j hj =>
  let ⟨a, b, c, d⟩ := h j hj; ⟨hk _ _ a, hk _ _ b, hk _ _ c, hk _ _ d⟩
def Short (es : List EX) : Prop := ∀ e ∈ es, e.1.size ≤ 100 ∧ e.2.size ≤ 100

def addFn (opb adb ab : Nat) : Value := .func (.func 16) #[] #[.pointer (some ⟨opb, 0, none⟩), .pointer (some ⟨adb, 0, none⟩), .pointer (some ⟨ab, 0, none⟩)]

/-- What a call of add leaves: the state, told from the world at the start. -/
structure Added (w0 w : World) (ab B : Nat) (av0 : Value) (es : List EX) (n : Nat) : Prop where
  st : ∃ av ks, AllAt w ab B av ks ∧ exs ks = es ∧ ks.length ≤ n ∧ (av.ownBlock = av0.ownBlock ∨ ∃ q, av.ownBlock = some q ∧ w0.heap.size ≤ q)
  mv : Moved w0 w (fun b => b = ab ∨ av0.ownBlock = some b)

theorem Added.start {w : World} {ab B : Nat} {av : Value} {ks : List KE} (h : AllAt w ab B av ks) : Added w w ab B av (exs ks) ks.length := ⟨⟨av, ks, h, rfl, Nat.le_refl _, .inl rfl⟩, Moved.refl _ _⟩
theorem Added.alloc {w0 w : World} {ab B : Nat} {av0 : Value} {es : List EX} {n : Nat} (h : Added w0 w ab B av0 es n) (o : Obj) : Added w0 (w.alloc o) ab B av0 es n := by
  obtain ⟨av, ks, h1, h2, h3, h4⟩ := h.st
  exact ⟨⟨av, ks, h1.keep fun b hb => Below.heap_alloc _ _ _ hb, h2, h3, h4⟩, h.mv.trans (Moved.alloc _ _ (fun _ => False)) fun i hi => hi.elim⟩

theorem add_step {w0 w : World} {ab B : Nat} {av0 : Value} {es : List EX} {n : Nat} (h : Added w0 w ab B av0 es n) (i x : ByteArray) (opb adb : Nat) (hop : w.cell? ⟨opb, 0, none⟩ = some (.int .i64 1)) (hn : n ≤ 9999) (hi : i.size ≤ 100) (hx : x.size ≤ 100) (hB : B ≤ w0.heap.size) :
    Calls Ybaf.prog 16 #[.agg #[.int .i64 0, .string i, .string x, .slice none 0 0], .pointer (some ⟨opb, 0, none⟩), .pointer (some ⟨adb, 0, none⟩), .pointer (some ⟨ab, 0, none⟩)] w fun e w' => Hid (e = .returned (.tuple #[]) ∧ Added w0 w' ab B av0 (addL es (i, x)) (n + 1)) := by
  obtain ⟨av, ks, h1, h2, h3, h4⟩ := h.st
  refine (add_simple i x opb adb ab B av ks w h1 hop (by omega) hi hx (by have := h.mv.size; omega)).mono ?_
  rintro e w' ⟨rfl, av', ks', k1, k2, k3, k4, k5⟩
  refine ⟨rfl, ⟨av', ks', k1, by rw [k2, h2], by omega, ?_⟩, h.mv.trans k4 ?_⟩
  · rcases k5 with k5 | ⟨q, k5, k6⟩
    · rw [k5]; exact h4
    · exact .inr ⟨q, k5, by have := h.mv.size; omega⟩
  · rintro b (hb | hb)
    · exact .inl (.inl hb)
    · rcases h4 with h4 | ⟨q, h4, h5⟩
      · exact .inl (.inr (by rw [← h4]; exact hb))
      · rw [h4] at hb; cases hb; exact .inr h5

set_option maxHeartbeats 2000000 in
set_option maxRecDepth 100000 in
theorem add_and (es es0 : List EX) (opb adb ab tg B n0 cap : Nat) (av0 : Value) (w0 w : World) (h : Added w0 w ab B av0 es0 n0) (ht : TermsAt w tg es) (hs : Short es) (hop : w.cell? ⟨opb, 0, none⟩ = some (.int .i64 1)) (had : w.cell? ⟨adb, 0, none⟩ = some (addFn opb adb ab))
    (hl : n0 + es.length ≤ 9999) (hB : B ≤ w0.heap.size)
    (f1 : opb ≠ ab ∧ (av0.ownBlock ≠ some opb) ∧ opb < w0.heap.size) (f2 : adb ≠ ab ∧ (av0.ownBlock ≠ some adb) ∧ adb < w0.heap.size) (f3 : tg ≠ ab ∧ (av0.ownBlock ≠ some tg) ∧ tg < w0.heap.size)
    (c1 : w0.cell? ⟨opb, 0, none⟩ = some (.int .i64 1)) (c2 : w0.cell? ⟨adb, 0, none⟩ = some (addFn opb adb ab)) (c3 : TermsAt w0 tg es) :
    Calls Ybaf.prog 16 #[.agg #[.int .i64 1, .string noStr, .string noStr, .slice (some ⟨tg, 0, none⟩) es.length cap], .pointer (some ⟨opb, 0, none⟩), .pointer (some ⟨adb, 0, none⟩), .pointer (some ⟨ab, 0, none⟩)] w fun e w' => Hid (e = .returned (.tuple #[]) ∧ Added w0 w' ab B av0 (es.foldl addL es0) (n0 + es.length)) := by
  have hol := World.block_lt_of_cell? w _ hop
  have o1 : ∀ o, (w.alloc o).cell? ⟨opb, 0, none⟩ = some (.int .i64 1) := fun o => by rw [World.cell?_alloc_lt _ _ _ hol]; exact hop
  obtain ⟨m, hm⟩ : ∃ m, m = es.length := ⟨_, rfl⟩
  have HM : Hid (m = es.length) := hm
  rw [← hm] at hl ⊢
  clear hm
  go_enter Ybaf.func16, Ybaf.ntmps16
  go_wp2_with fail
  go_loopw [16] (fun i x => ∃ j : Nat, j ≤ m ∧ i = .int .i64 (j : Int) ∧ Added w0 x ab B av0 ((es.take j).foldl addL es0) (n0 + j)) (fun i _ => m - (intOf i).toNat)
  case atStart => exact ⟨0, by omega, rfl, h.alloc _⟩
  case round =>
    obtain ⟨j, hj, rfl, hA⟩ := hrel
    by_cases hlt : j < m
    · have hlt' : j < es.length := by rw [← HM.out]; exact hlt
      have i0 : (j : Int) < (m : Int) := by omega
      have q1 : wr.cell? ⟨opb, 0, none⟩ = some (.int .i64 1) := hA.mv.cell c1 (by rintro (e | e) <;> simp_all)
      have q2 : wr.cell? ⟨adb, 0, none⟩ = some (addFn opb adb ab) := hA.mv.cell c2 (by rintro (e | e) <;> simp_all)
      obtain ⟨t0, t1, t2, t3⟩ := (c3.keep (w' := wr) fun _ _ hc => hA.mv.cell hc (by rintro (e | e) <;> simp_all)) j hlt'
      have hk : ∀ (b k : Nat) (v : Value) (o : Obj), wr.cell? ⟨b, k, none⟩ = some v → (wr.alloc o).cell? ⟨b, k, none⟩ = some v := fun b k v o hc => by rw [World.cell?_alloc_lt _ _ _ (World.block_lt_of_cell? wr _ hc)]; exact hc
      have q3 := hk _ _ _ (.cells #[.int .i64 0, .string es[j].1, .string es[j].2, .slice none 0 0] 31) q2
      have q4 := hk _ _ _ (.cells #[.int .i64 0, .string es[j].1, .string es[j].2, .slice none 0 0] 31) q1
      have hst := add_step (hA.alloc (.cells #[.int .i64 0, .string es[j].1, .string es[j].2, .slice none 0 0] 31)) es[j].1 es[j].2 opb adb q4 (by omega) (hs _ (List.getElem_mem hlt')).1 (hs _ (List.getElem_mem hlt')).2 hB
      unfold addFn at q3
      clear q2 q1
      generalize hei : es[j].1 = ei at *
      generalize hex : es[j].2 = ex at *
      clear hk
      go_wp2_with (go_at_call 16; refine hst.mono ?_)
      intro e x1 hp
      obtain ⟨rfl, hA1⟩ := hp.out
      clear hp hst
      go_wp2_with fail
      refine ⟨⟨j + 1, by omega, by simp, ?_⟩, by simp [intOf]; omega⟩
      have e1 : (es.take (j + 1)).foldl addL es0 = addL ((es.take j).foldl addL es0) (ei, ex) := by
        rw [List.take_succ_eq_append_getElem hlt', List.foldl_append]
        simp [← hei, ← hex]
      rw [e1]
      exact hA1
    · go_wp2_with fail
      go_end0
      have : j = m := by omega
      subst this
      have e2 : es.take j = es := List.take_of_length_le (by rw [← HM.out]; exact Nat.le_refl _)
      rw [e2] at hA
      exact ⟨rfl, hA⟩
end Go.Proofs.YbulkexpecFmt
