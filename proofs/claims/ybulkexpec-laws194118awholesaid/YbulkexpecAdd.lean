/- linkSet.add (function 5). -/
import Derived.Test.YbulkexpecLinks
namespace Go.Proofs.Ybulkexpec
open Go.RowKit Go.PK Go.RegInv
set_option linter.unusedVariables false

def setCells (LV : Value) (an tg : Int) : Array Value := #[LV, .slice none 0 0, .map none, .slice none 0 0, .slice none 0 0, .int .i64 an, .int .i64 tg, .slice none 0 0]

theorem wp_skip {P : Program} {Q : Exit → Act → World → Prop} {o : Oper} {a : Act} {w w' : World} {next : Act → World → Prop} (h : (execOp a.eval o).run P w = .ok .skip w') (hn : next (a.put o.dst undef) w') : o.wp P a w next Q := by
  unfold Oper.wp; rw [h]; exact hn

def GoodA (B N lb m : Nat) (LV : Value) (xs : List Value) (S E : Int) (A : Value) (z : Option (List Int)) (i : Nat) (v : Value) (w : World) : Prop :=
  match i with
  | 0 => v = Value.pointer (some ⟨lb, 0, none⟩)
  | 1 => v = Value.pointer (some ⟨lb, 0, none⟩)
  | 2 => v = Value.pointer (some ⟨lb, 0, none⟩)
  | 3 => v = Value.pointer (some ⟨lb, 0, none⟩)
  | 4 => v = LV
  | 5 => v = Value.int .i64 S
  | 6 => v = Value.int .i64 E
  | 7 => v = A
  | 8 => AddrIs N w v z
  | 9 => ∃ u, v = .agg #[.int .i64 S, .int .i64 E, u] ∧ AddrIs N w u z
  | 10 => ∃ bb u, v = .slice (some ⟨bb, 0, none⟩) 1 1 ∧ N ≤ bb ∧ w.heap[bb]? = some (.cells #[.int .i64 S, .int .i64 E, u] 28) ∧ AddrIs N w u z
  | 11 => LinkRow B N m xs S E z v w
  | 12 => v = Value.pointer (some ⟨lb, 0, none⟩)
  | 13 => v = Value.pointer (some ⟨lb, 0, none⟩)
  | _ => True

def StepA (N lb : Nat) (j : Nat) (w w' : World) : Prop :=
  w.heap.size ≤ w'.heap.size ∧ (∃ c, w.heap[lb]? = some (.cells c 34)) ∧ (∀ (b : Nat) (o : Obj), N ≤ b → w.heap[b]? = some o → w'.heap[b]? = some o) ∧ (j ≠ 11 → ∀ (b : Nat) (o : Obj), b ≠ lb → w.heap[b]? = some o → w'.heap[b]? = some o)

def JA (B N lb m : Nat) (LV : Value) (xs : List Value) (S E : Int) (z : Option (List Int)) (an tg : Int) (w0 : World) (d : Nat → Bool) (w : World) : Prop :=
  (w.os = w0.os ∧ w.tape = w0.tape ∧ w.output = w0.output) ∧ N ≤ w.heap.size ∧ (∀ b, b < N → some b ≠ LV.ownBlock → b ≠ lb → w.heap[b]? = w0.heap[b]?) ∧ (d 11 = false → w.ownsRow B 28 3 LV m xs) ∧ (∀ q, LV.ownBlock = some q → q < N) ∧ lb < N ∧
  (d 14 = false → w.heap[lb]? = some (.cells (setCells LV an tg) 34)) ∧ (d 14 = true → ∃ v, LinkRow B N m xs S E z v w ∧ w.heap[lb]? = some (.cells (setCells v an tg) 34))

theorem JA.lb {B N lb m : Nat} {LV : Value} {xs : List Value} {S E : Int} {z : Option (List Int)} {an tg : Int} {w0 w : World} {d : Nat → Bool} (h : JA B N lb m LV xs S E z an tg w0 d w) : ∃ c, w.heap[lb]? = some (.cells c 34) := by
  obtain ⟨_, _, _, _, _, _, h1, h2⟩ := h
  cases hd : d 14 with
  | false => exact ⟨_, h1 hd⟩
  | true => obtain ⟨v, _, h3⟩ := h2 hd; exact ⟨_, h3⟩

theorem JA.below {B N lb m : Nat} {LV : Value} {xs : List Value} {S E : Int} {z : Option (List Int)} {an tg : Int} {w0 w w' : World} {d : Nat → Bool} (h : JA B N lb m LV xs S E z an tg w0 d w) (i : Nat) (hi : i ≠ 11) (hi' : i ≠ 14) (hb : Below w.heap.size w w') : JA B N lb m LV xs S E z an tg w0 (fun j => d j || j == i) w' := by
  obtain ⟨h1, h2, h3, h4, h5, h6, h7, h8⟩ := h
  have e1 : ((11 : Nat) == i) = false := by rw [beq_eq_false_iff_ne]; omega
  have e2 : ((14 : Nat) == i) = false := by rw [beq_eq_false_iff_ne]; omega
  refine ⟨⟨hb.os.trans h1.1, hb.tape.trans h1.2.1, hb.output.trans h1.2.2⟩, Nat.le_trans h2 hb.size, fun b hbN hne hl => by rw [hb.block b (Nat.lt_of_lt_of_le hbN h2)]; exact h3 b hbN hne hl, fun hd => ?_, h5, h6, fun hd => ?_, fun hd => ?_⟩
  · have hd' : d 11 = false := by simpa [e1] using hd
    rcases Joins.ownsRow_forms (h4 hd') with ⟨rfl, rfl⟩ | ⟨g, cap, rfl⟩
    · exact ⟨(h4 hd').1, .inl ⟨rfl, rfl⟩⟩
    · exact own_keep (h4 hd') fun o ho => blk_below ho hb (blk_lt ho)
  · have := h7 (by simpa [e2] using hd)
    exact blk_below this hb (blk_lt this)
  · obtain ⟨v, r, hh⟩ := h8 (by simpa [e2] using hd)
    exact ⟨v, r.keep fun b o ho => blk_below ho hb (blk_lt ho), blk_below hh hb (blk_lt hh)⟩

theorem StepA.below {B N lb m : Nat} {LV : Value} {xs : List Value} {S E : Int} {z : Option (List Int)} {an tg : Int} {w0 w w' : World} {d : Nat → Bool} {j : Nat} (h : JA B N lb m LV xs S E z an tg w0 d w) (hb : Below w.heap.size w w') : StepA N lb j w w' :=
  ⟨hb.size, h.lb, fun _ _ _ h => blk_below h hb (blk_lt h), fun _ _ _ _ h => blk_below h hb (blk_lt h)⟩

theorem AddrIs.keep_ne {N lb : Nat} {w w' : World} {u : Value} {z : Option (List Int)} (h : AddrIs N w u z) (hl : ∃ c, w.heap[lb]? = some (.cells c 34)) (hk : ∀ (b : Nat) (o : Obj), b ≠ lb → w.heap[b]? = some o → w'.heap[b]? = some o) : AddrIs N w' u z := by
  obtain ⟨c, hl⟩ := hl
  rcases h with h | ⟨g, cap, zs, cur, e1, e2, e3, e4, r⟩
  · exact .inl h
  · exact .inr ⟨g, cap, zs, cur, e1, e2, e3, hk _ _ (ne_of_type e4 hl (by decide)) e4, r⟩

theorem LinkRow.keep_ne {B N m lb : Nat} {xs : List Value} {S E : Int} {z : Option (List Int)} {v : Value} {w w' : World} (h : LinkRow B N m xs S E z v w) (hl : ∃ c, w.heap[lb]? = some (.cells c 34)) (hk : ∀ (b : Nat) (o : Obj), b ≠ lb → w.heap[b]? = some o → w'.heap[b]? = some o) : LinkRow B N m xs S E z v w' := by
  obtain ⟨g, cap, u, rfl, h1, h2⟩ := h
  obtain ⟨c, hl'⟩ := hl
  obtain ⟨cur, hc, _⟩ := own_blk h1
  exact ⟨g, cap, u, rfl, own_keep h1 fun o ho => hk _ _ (ne_of_type hc hl' (by decide)) ho, h2.keep_ne ⟨c, hl'⟩ hk⟩

theorem GoodA.stable {B N lb m : Nat} {LV : Value} {xs : List Value} {S E : Int} {A : Value} {z : Option (List Int)} (i j : Nat) (v : Value) (w w' : World) (hij : i ≠ j) (h : GoodA B N lb m LV xs S E A z i v w) (hS : StepA N lb j w w') : GoodA B N lb m LV xs S E A z i v w' := by
  by_cases h1 : i = 11
  · subst h1
    exact LinkRow.keep_ne h hS.2.1 (hS.2.2.2 (fun e => hij e.symm))
  · have hk := hS.2.2.1
    unfold GoodA at h ⊢
    split at h <;> first | exact h | (exact absurd rfl h1) | exact h.keep (Nat.le_refl _) hk | (obtain ⟨u, e, r⟩ := h; exact ⟨u, e, r.keep (Nat.le_refl _) hk⟩) | (obtain ⟨bb, u, e, h2, h3, r⟩ := h; exact ⟨bb, u, e, h2, hk _ _ h2 h3, r.keep (Nat.le_refl _) hk⟩)

section
variable {B N lb m : Nat} {LV : Value} {xs : List Value} {S E : Int} {A : Value} {z : Option (List Int)} {an tg : Int} {a : Act} {w w0 : World} {Q : Exit → Act → World → Prop} {oo : Oper} {p : String} {d : Nat → Bool}

set_option maxRecDepth 100000 in
theorem ad_0 (ho : oo = { dst := some 24, op := Op.move (Operand.tmp 0), type := 29, pos := p, after := #[], guard := none }) (hJ : JA B N lb m LV xs S E z an tg w0 d w) (t0 : a.eval (.tmp 0) = Value.pointer (some ⟨lb, 0, none⟩)) :
    Oper.wp Yba.prog oo a w (fun a' w' => ∃ v, a' = a.put oo.dst v ∧ GoodA B N lb m LV xs S E A z 0 v w' ∧ JA B N lb m LV xs S E z an tg w0 (fun j => d j || j == 0) w' ∧ StepA N lb 0 w w') Q := by
  subst ho
  simp only [Act.eval, Array.getD_eq_getD_getElem?] at t0
  exact wp_of_run (v := Value.pointer (some ⟨lb, 0, none⟩)) (w' := w) (by go_simp) ⟨_, rfl, rfl, hJ.below 0 (by decide) (by decide) (Below.refl _ _), StepA.below hJ (Below.refl _ _)⟩

set_option maxRecDepth 100000 in
theorem ad_1 (ho : oo = { dst := some 25, op := Op.move (Operand.tmp 0), type := 29, pos := p, after := #[], guard := none }) (hJ : JA B N lb m LV xs S E z an tg w0 d w) (t0 : a.eval (.tmp 0) = Value.pointer (some ⟨lb, 0, none⟩)) :
    Oper.wp Yba.prog oo a w (fun a' w' => ∃ v, a' = a.put oo.dst v ∧ GoodA B N lb m LV xs S E A z 1 v w' ∧ JA B N lb m LV xs S E z an tg w0 (fun j => d j || j == 1) w' ∧ StepA N lb 1 w w') Q := by
  subst ho
  simp only [Act.eval, Array.getD_eq_getD_getElem?] at t0
  exact wp_of_run (v := Value.pointer (some ⟨lb, 0, none⟩)) (w' := w) (by go_simp) ⟨_, rfl, rfl, hJ.below 1 (by decide) (by decide) (Below.refl _ _), StepA.below hJ (Below.refl _ _)⟩

set_option maxRecDepth 100000 in
theorem ad_2 (ho : oo = { dst := some 26, op := Op.nilCheck (Operand.tmp 25), type := 0, pos := p, after := #[{ on := 1, ground := Ground.data }], guard := none }) (hJ : JA B N lb m LV xs S E z an tg w0 d w) (g1 : a.eval (.tmp 25) = Value.pointer (some ⟨lb, 0, none⟩)) :
    Oper.wp Yba.prog oo a w (fun a' w' => ∃ v, a' = a.put oo.dst v ∧ GoodA B N lb m LV xs S E A z 2 v w' ∧ JA B N lb m LV xs S E z an tg w0 (fun j => d j || j == 2) w' ∧ StepA N lb 2 w w') Q := by
  subst ho
  simp only [Act.eval, Array.getD_eq_getD_getElem?] at g1
  exact wp_of_run (v := Value.pointer (some ⟨lb, 0, none⟩)) (w' := w) (by go_simp) ⟨_, rfl, rfl, hJ.below 2 (by decide) (by decide) (Below.refl _ _), StepA.below hJ (Below.refl _ _)⟩

set_option maxRecDepth 100000 in
theorem ad_3 (ho : oo = { dst := some 27, op := Op.fieldAddr 34 (Operand.tmp 26) 0, type := 0, pos := p, after := #[{ on := 2, ground := Ground.data }], guard := none }) (hJ : JA B N lb m LV xs S E z an tg w0 d w) (g2 : a.eval (.tmp 26) = Value.pointer (some ⟨lb, 0, none⟩)) :
    Oper.wp Yba.prog oo a w (fun a' w' => ∃ v, a' = a.put oo.dst v ∧ GoodA B N lb m LV xs S E A z 3 v w' ∧ JA B N lb m LV xs S E z an tg w0 (fun j => d j || j == 3) w' ∧ StepA N lb 3 w w') Q := by
  subst ho
  simp only [Act.eval, Array.getD_eq_getD_getElem?] at g2
  exact wp_of_run (v := Value.pointer (some ⟨lb, 0, none⟩)) (w' := w) (by go_simp) ⟨_, rfl, rfl, hJ.below 3 (by decide) (by decide) (Below.refl _ _), StepA.below hJ (Below.refl _ _)⟩

set_option maxRecDepth 100000 in
theorem ad_4 (ho : oo = { dst := some 28, op := Op.load 26 (Operand.tmp 27), type := 26, pos := p, after := #[{ on := 3, ground := Ground.data }], guard := none }) (hJ : JA B N lb m LV xs S E z an tg w0 d w) (g3 : a.eval (.tmp 27) = Value.pointer (some ⟨lb, 0, none⟩)) (hd : d 14 = false) (hf : ∃ aa l c, LV = .slice aa l c) :
    Oper.wp Yba.prog oo a w (fun a' w' => ∃ v, a' = a.put oo.dst v ∧ GoodA B N lb m LV xs S E A z 4 v w' ∧ JA B N lb m LV xs S E z an tg w0 (fun j => d j || j == 4) w' ∧ StepA N lb 4 w w') Q := by
  subst ho
  simp only [Act.eval, Array.getD_eq_getD_getElem?] at g3
  have hc : w.cell? ⟨lb, 0, none⟩ = some LV := by rw [cell_of_row _ _ _ _ _ _ (hJ.2.2.2.2.2.2.1 hd)]; rfl
  obtain ⟨aa, l, c, rfl⟩ := hf
  exact wp_of_run (v := .slice aa l c) (w' := w) (by go_simp) ⟨_, rfl, rfl, hJ.below 4 (by decide) (by decide) (Below.refl _ _), StepA.below hJ (Below.refl _ _)⟩

set_option maxRecDepth 100000 in
theorem ad_5 (ho : oo = { dst := some 29, op := Op.move (Operand.tmp 1), type := 3, pos := p, after := #[], guard := none }) (hJ : JA B N lb m LV xs S E z an tg w0 d w) (t1 : a.eval (.tmp 1) = Value.int .i64 S) :
    Oper.wp Yba.prog oo a w (fun a' w' => ∃ v, a' = a.put oo.dst v ∧ GoodA B N lb m LV xs S E A z 5 v w' ∧ JA B N lb m LV xs S E z an tg w0 (fun j => d j || j == 5) w' ∧ StepA N lb 5 w w') Q := by
  subst ho
  simp only [Act.eval, Array.getD_eq_getD_getElem?] at t1
  exact wp_of_run (v := Value.int .i64 S) (w' := w) (by go_simp) ⟨_, rfl, rfl, hJ.below 5 (by decide) (by decide) (Below.refl _ _), StepA.below hJ (Below.refl _ _)⟩

set_option maxRecDepth 100000 in
theorem ad_6 (ho : oo = { dst := some 30, op := Op.move (Operand.tmp 2), type := 3, pos := p, after := #[], guard := none }) (hJ : JA B N lb m LV xs S E z an tg w0 d w) (t2 : a.eval (.tmp 2) = Value.int .i64 E) :
    Oper.wp Yba.prog oo a w (fun a' w' => ∃ v, a' = a.put oo.dst v ∧ GoodA B N lb m LV xs S E A z 6 v w' ∧ JA B N lb m LV xs S E z an tg w0 (fun j => d j || j == 6) w' ∧ StepA N lb 6 w w') Q := by
  subst ho
  simp only [Act.eval, Array.getD_eq_getD_getElem?] at t2
  exact wp_of_run (v := Value.int .i64 E) (w' := w) (by go_simp) ⟨_, rfl, rfl, hJ.below 6 (by decide) (by decide) (Below.refl _ _), StepA.below hJ (Below.refl _ _)⟩

set_option maxRecDepth 100000 in
theorem ad_7 (ho : oo = { dst := some 31, op := Op.move (Operand.tmp 3), type := 23, pos := p, after := #[], guard := none }) (hJ : JA B N lb m LV xs S E z an tg w0 d w) (t3 : a.eval (.tmp 3) = A) :
    Oper.wp Yba.prog oo a w (fun a' w' => ∃ v, a' = a.put oo.dst v ∧ GoodA B N lb m LV xs S E A z 7 v w' ∧ JA B N lb m LV xs S E z an tg w0 (fun j => d j || j == 7) w' ∧ StepA N lb 7 w w') Q := by
  subst ho
  simp only [Act.eval, Array.getD_eq_getD_getElem?] at t3
  exact wp_of_run (v := A) (w' := w) (by go_simp) ⟨_, rfl, rfl, hJ.below 7 (by decide) (by decide) (Below.refl _ _), StepA.below hJ (Below.refl _ _)⟩

set_option maxRecDepth 100000 in
theorem ad_8 (ho : oo = { dst := some 32, op := Op.call { callee := Callee.value (Operand.func 7), args := #[Operand.tmp 31], argTypes := #[23] }, type := 23, pos := p, after := #[{ on := 7, ground := Ground.data }], guard := none }) (hJ : JA B N lb m LV xs S E z an tg w0 d w) (g7 : a.eval (.tmp 31) = A) (hs : SrcIs w A z) (hA : A ≠ .slice none 0 0) :
    Oper.wp Yba.prog oo a w (fun a' w' => ∃ v, a' = a.put oo.dst v ∧ GoodA B N lb m LV xs S E A z 8 v w' ∧ JA B N lb m LV xs S E z an tg w0 (fun j => d j || j == 8) w' ∧ StepA N lb 8 w w') Q := by
  subst ho
  simp only [Act.eval, Array.getD_eq_getD_getElem?] at g7
  rcases hs with ⟨e, _⟩ | ⟨x, c, zs, rfl, rfl, hl, hc, hw⟩
  · exact absurd e hA
  · refine wp_of_call (f := 7) (args := #[.slice (some x) zs.length c]) (w' := w) (by go_simp) ((Yba.bytes_Clone_at x zs.length c zs w rfl (by omega) (fun i hi => (hc i hi).2)).mono fun e w' h => ?_)
    obtain ⟨u, rfl, ha, hn, hb⟩ := h
    refine ⟨u, rfl, _, rfl, ?_, hJ.below 8 (by decide) (by decide) hb, StepA.below hJ hb⟩
    rcases Joins.ownsRow_forms ha with ⟨rfl, _⟩ | ⟨g, cap, rfl⟩
    · exact absurd rfl hn
    · obtain ⟨cur, hcur, hg, _, _, _, ht⟩ := own_blk ha
      refine .inr ⟨g, cap, zs, cur, rfl, rfl, Nat.le_trans hJ.2.1 hg, hcur, hl, fun j hj => ?_, hw⟩
      have e := congrArg (fun l => l[j]?) ht
      simp only [List.getElem?_take, Nat.mul_one, hj, if_true] at e
      rw [← Array.getElem?_toList, e]
      simp [hj]

set_option maxRecDepth 100000 in
theorem ad_9 (ho : oo = { dst := some 33, op := Op.build 28 #[(0, Operand.tmp 29), (1, Operand.tmp 30), (2, Operand.tmp 32)], type := 28, pos := p, after := #[{ on := 5, ground := Ground.data }, { on := 6, ground := Ground.data }, { on := 8, ground := Ground.data }], guard := none }) (hJ : JA B N lb m LV xs S E z an tg w0 d w) (g5 : a.eval (.tmp 29) = Value.int .i64 S) (g6 : a.eval (.tmp 30) = Value.int .i64 E) (g8 : AddrIs N w (a.eval (.tmp 32)) z) :
    Oper.wp Yba.prog oo a w (fun a' w' => ∃ v, a' = a.put oo.dst v ∧ GoodA B N lb m LV xs S E A z 9 v w' ∧ JA B N lb m LV xs S E z an tg w0 (fun j => d j || j == 9) w' ∧ StepA N lb 9 w w') Q := by
  subst ho
  obtain ⟨aa, l, c, e⟩ := g8.form
  rw [e] at g8
  simp only [Act.eval, Array.getD_eq_getD_getElem?] at g5 g6 e
  exact wp_of_run (v := .agg #[.int .i64 S, .int .i64 E, .slice aa l c]) (w' := w) (by go_simp) ⟨_, rfl, ⟨_, rfl, g8⟩, hJ.below 9 (by decide) (by decide) (Below.refl _ _), StepA.below hJ (Below.refl _ _)⟩

set_option maxRecDepth 100000 in
theorem ad_10 (ho : oo = { dst := some 34, op := Op.buildSlice 26 1 #[(0, Operand.tmp 33)], type := 26, pos := p, after := #[{ on := 9, ground := Ground.data }], guard := none }) (hJ : JA B N lb m LV xs S E z an tg w0 d w) (g9 : ∃ u, a.eval (.tmp 33) = .agg #[.int .i64 S, .int .i64 E, u] ∧ AddrIs N w u z) :
    Oper.wp Yba.prog oo a w (fun a' w' => ∃ v, a' = a.put oo.dst v ∧ GoodA B N lb m LV xs S E A z 10 v w' ∧ JA B N lb m LV xs S E z an tg w0 (fun j => d j || j == 10) w' ∧ StepA N lb 10 w w') Q := by
  subst ho
  obtain ⟨u, e, g8⟩ := g9
  obtain ⟨aa, l, c, rfl⟩ := g8.form
  simp only [Act.eval, Array.getD_eq_getD_getElem?] at e
  have hb : Below w.heap.size w (w.alloc (.cells #[.int .i64 S, .int .i64 E, .slice aa l c] 28)) := (Below.refl _ _).alloc (Nat.le_refl _) _
  exact wp_of_run (v := .slice (some ⟨w.heap.size, 0, none⟩) 1 1) (w' := w.alloc (.cells #[.int .i64 S, .int .i64 E, .slice aa l c] 28)) (by go_simp) ⟨_, rfl, ⟨w.heap.size, _, rfl, hJ.2.1, blk_new _ _, g8.keep (Nat.le_refl _) fun _ _ _ h => blk_alloc h _⟩, hJ.below 10 (by decide) (by decide) hb, StepA.below hJ hb⟩

set_option maxRecDepth 100000 in
theorem ad_11 (ho : oo = { dst := some 35, op := Op.call { callee := Callee.builtin Builtin.append, args := #[Operand.tmp 28, Operand.tmp 34], argTypes := #[26, 26] }, type := 26, pos := p, after := #[{ on := 4, ground := Ground.data }, { on := 10, ground := Ground.data }, { on := 8, ground := Ground.chain }], guard := none }) (hJ : JA B N lb m LV xs S E z an tg w0 d w) (g4 : a.eval (.tmp 28) = LV) (g10 : ∃ bb u, a.eval (.tmp 34) = .slice (some ⟨bb, 0, none⟩) 1 1 ∧ N ≤ bb ∧ w.heap[bb]? = some (.cells #[.int .i64 S, .int .i64 E, u] 28) ∧ AddrIs N w u z) (hd : d 11 = false) (hd14 : d 14 = false) (hm : m ≤ 1000000) (hB : B ≤ N) :
    Oper.wp Yba.prog oo a w (fun a' w' => ∃ v, a' = a.put oo.dst v ∧ GoodA B N lb m LV xs S E A z 11 v w' ∧ JA B N lb m LV xs S E z an tg w0 (fun j => d j || j == 11) w' ∧ StepA N lb 11 w w') Q := by
  subst ho
  obtain ⟨bb, u, e, hbb, hcb, hu⟩ := g10
  have hJ' := hJ
  obtain ⟨h1, h2, h3, h4, h5, h6, h7, h8⟩ := hJ'
  have hL : JL B N LV m xs w (fun _ => false) w := ⟨⟨rfl, rfl, rfl⟩, h2, fun _ _ _ => rfl, fun _ => h4 hd, h5⟩
  refine app_link (ops := #[]) rfl (.tmp 28) (.tmp 34) rfl hL rfl g4 e hbb hcb hu hu.form hm hB fun v w' r1 r2 r3 => ⟨v, rfl, r1, ?_, ?_⟩
  · have hlb := h7 hd14
    have hneL : some lb ≠ LV.ownBlock := by
      intro e'
      rcases Joins.ownsRow_forms (h4 hd) with ⟨rfl, _⟩ | ⟨g, cap, rfl⟩
      · cases e'
      · obtain ⟨cur, hcur, _⟩ := own_blk (h4 hd)
        simp only [Value.ownBlock, Option.some.injEq] at e'
        exact ne_of_type hlb hcur (by decide) e'
    refine ⟨⟨r2.1.1.trans h1.1, r2.1.2.1.trans h1.2.1, r2.1.2.2.trans h1.2.2⟩, r2.2.1, fun b hb hne hl => by rw [r2.2.2.1 b hb hne]; exact h3 b hb hne hl, fun hd' => by simp at hd', h5, h6, fun _ => ?_, fun hd' => ?_⟩
    · rw [r2.2.2.1 lb h6 hneL]; exact hlb
    · simp [hd14] at hd'
  · exact ⟨r3.1, hJ.lb, r3.2.1, fun hne => absurd rfl hne⟩

set_option maxRecDepth 100000 in
theorem ad_12 (ho : oo = { dst := some 36, op := Op.nilCheck (Operand.tmp 24), type := 0, pos := p, after := #[{ on := 0, ground := Ground.data }, { on := 0, ground := Ground.phase }, { on := 1, ground := Ground.phase }, { on := 2, ground := Ground.phase }, { on := 3, ground := Ground.phase }, { on := 4, ground := Ground.phase }, { on := 5, ground := Ground.phase }, { on := 6, ground := Ground.phase }, { on := 7, ground := Ground.phase }, { on := 8, ground := Ground.phase }, { on := 9, ground := Ground.phase }, { on := 10, ground := Ground.phase }, { on := 11, ground := Ground.phase }], guard := none }) (hJ : JA B N lb m LV xs S E z an tg w0 d w) (g0 : a.eval (.tmp 24) = Value.pointer (some ⟨lb, 0, none⟩)) :
    Oper.wp Yba.prog oo a w (fun a' w' => ∃ v, a' = a.put oo.dst v ∧ GoodA B N lb m LV xs S E A z 12 v w' ∧ JA B N lb m LV xs S E z an tg w0 (fun j => d j || j == 12) w' ∧ StepA N lb 12 w w') Q := by
  subst ho
  simp only [Act.eval, Array.getD_eq_getD_getElem?] at g0
  exact wp_of_run (v := Value.pointer (some ⟨lb, 0, none⟩)) (w' := w) (by go_simp) ⟨_, rfl, rfl, hJ.below 12 (by decide) (by decide) (Below.refl _ _), StepA.below hJ (Below.refl _ _)⟩

set_option maxRecDepth 100000 in
theorem ad_13 (ho : oo = { dst := some 37, op := Op.fieldAddr 34 (Operand.tmp 36) 0, type := 0, pos := p, after := #[{ on := 12, ground := Ground.data }, { on := 0, ground := Ground.phase }, { on := 1, ground := Ground.phase }, { on := 2, ground := Ground.phase }, { on := 3, ground := Ground.phase }, { on := 4, ground := Ground.phase }, { on := 5, ground := Ground.phase }, { on := 6, ground := Ground.phase }, { on := 7, ground := Ground.phase }, { on := 8, ground := Ground.phase }, { on := 9, ground := Ground.phase }, { on := 10, ground := Ground.phase }, { on := 11, ground := Ground.phase }], guard := none }) (hJ : JA B N lb m LV xs S E z an tg w0 d w) (g12 : a.eval (.tmp 36) = Value.pointer (some ⟨lb, 0, none⟩)) :
    Oper.wp Yba.prog oo a w (fun a' w' => ∃ v, a' = a.put oo.dst v ∧ GoodA B N lb m LV xs S E A z 13 v w' ∧ JA B N lb m LV xs S E z an tg w0 (fun j => d j || j == 13) w' ∧ StepA N lb 13 w w') Q := by
  subst ho
  simp only [Act.eval, Array.getD_eq_getD_getElem?] at g12
  exact wp_of_run (v := Value.pointer (some ⟨lb, 0, none⟩)) (w' := w) (by go_simp) ⟨_, rfl, rfl, hJ.below 13 (by decide) (by decide) (Below.refl _ _), StepA.below hJ (Below.refl _ _)⟩

set_option maxRecDepth 100000 in
theorem ad_14 (ho : oo = { dst := none, op := Op.store 26 (Operand.tmp 37) (Operand.tmp 35), type := 0, pos := p, after := #[{ on := 13, ground := Ground.data }, { on := 11, ground := Ground.data }, { on := 11, ground := Ground.chain }, { on := 0, ground := Ground.phase }, { on := 1, ground := Ground.phase }, { on := 2, ground := Ground.phase }, { on := 3, ground := Ground.phase }, { on := 4, ground := Ground.phase }, { on := 5, ground := Ground.phase }, { on := 6, ground := Ground.phase }, { on := 7, ground := Ground.phase }, { on := 8, ground := Ground.phase }, { on := 9, ground := Ground.phase }, { on := 10, ground := Ground.phase }, { on := 11, ground := Ground.phase }], guard := none }) (hJ : JA B N lb m LV xs S E z an tg w0 d w) (g13 : a.eval (.tmp 37) = Value.pointer (some ⟨lb, 0, none⟩)) (g11 : LinkRow B N m xs S E z (a.eval (.tmp 35)) w) (hd : d 14 = false) (hd11 : d 11 = true) :
    Oper.wp Yba.prog oo a w (fun a' w' => ∃ v, a' = a.put oo.dst v ∧ GoodA B N lb m LV xs S E A z 14 v w' ∧ JA B N lb m LV xs S E z an tg w0 (fun j => d j || j == 14) w' ∧ StepA N lb 14 w w') Q := by
  subst ho
  obtain ⟨h1, h2, h3, h4, h5, h6, h7, h8⟩ := hJ
  have hlb := h7 hd
  have hc : w.cell? ⟨lb, 0, none⟩ = some LV := by rw [cell_of_row _ _ _ _ _ _ hlb]; rfl
  have hf := frozen_of_row w lb 0 _ 34 hlb
  obtain ⟨g, cap, u, e, r⟩ := g11
  rw [e] at r
  simp only [Act.eval, Array.getD_eq_getD_getElem?] at g13 e
  have hk : ∀ (b : Nat) (o : Obj), b ≠ lb → w.heap[b]? = some o → (w.setCell ⟨lb, 0, none⟩ (.slice (some ⟨g, 0, none⟩) (m + 1) cap)).heap[b]? = some o := fun b o hne ho => blk_set ho hne _
  refine wp_skip (w' := w.setCell ⟨lb, 0, none⟩ (.slice (some ⟨g, 0, none⟩) (m + 1) cap)) (by go_simp) ⟨_, rfl, trivial, ?_, ?_⟩
  · refine ⟨⟨h1.1, h1.2.1, h1.2.2⟩, by simpa using h2, fun b hb hne hl => ?_, fun hd' => by simp [hd11] at hd', h5, h6, fun hd' => by simp at hd', fun _ => ⟨.slice (some ⟨g, 0, none⟩) (m + 1) cap, ?_, blk_same hlb 0 _⟩⟩
    · rw [Below.heap_setCell _ _ _ _ hl]; exact h3 b hb hne hl
    · exact LinkRow.keep_ne ⟨g, cap, u, rfl, r.1, r.2⟩ ⟨_, hlb⟩ hk
  · exact ⟨by simp, ⟨_, hlb⟩, fun b o hb ho => hk b o (by omega) ho, fun _ b o hne ho => hk b o hne ho⟩

end

end Go.Proofs.Ybulkexpec
