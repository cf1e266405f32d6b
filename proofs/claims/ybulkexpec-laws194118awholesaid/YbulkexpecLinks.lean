/- LawS194118AWhole: a link appended to a row of links, in a region that draws its order: op by op. -/
import Derived.Test.YbulkexpecBytes
import Derived.Test.YbulkexpecRegion
namespace Go.Proofs.Ybulkexpec
open Go.RowKit Go.PK Go.RegInv
set_option linter.unusedVariables false

theorem Yba.info28 : (Yba.prog.info? 28).map (fun i => (i.zero, i.size, i.bytes)) = some (some (.agg #[.int .i64 0, .int .i64 0, .slice none 0 0]), 3, 40) := by kernel_rfl

theorem AddrIs.form {N : Nat} {w : World} {v : Value} {z : Option (List Int)} (h : AddrIs N w v z) : ∃ aa l c, v = .slice aa l c := by
  rcases h with ⟨rfl, _⟩ | ⟨g, cap, zs, cur, rfl, _⟩
  · exact ⟨_, _, _, rfl⟩
  · exact ⟨_, _, _, rfl⟩

/-- The row of links grown by one. -/
def LinkRow (B N m : Nat) (xs : List Value) (S E : Int) (z : Option (List Int)) (v : Value) (w : World) : Prop :=
  ∃ (g cap : Nat) (u : Value), v = .slice (some ⟨g, 0, none⟩) (m + 1) cap ∧ w.ownsRow B 28 3 v (m + 1) (xs ++ [.int .i64 S, .int .i64 E, u]) ∧ AddrIs N w u z

theorem LinkRow.keep {B N m : Nat} {xs : List Value} {S E : Int} {z : Option (List Int)} {v : Value} {w w' : World} (h : LinkRow B N m xs S E z v w) (hk : ∀ (b : Nat) (o : Obj), w.heap[b]? = some o → w'.heap[b]? = some o) : LinkRow B N m xs S E z v w' := by
  obtain ⟨g, cap, u, rfl, h1, h2⟩ := h
  exact ⟨g, cap, u, rfl, own_keep h1 fun o ho => hk _ _ ho, h2.keep (Nat.le_refl _) fun b o _ h => hk _ _ h⟩

/-- What a step of the region leaves. -/
def StepL (N : Nat) (LV : Value) (j : Nat) (w w' : World) : Prop :=
  w.heap.size ≤ w'.heap.size ∧ (∀ (b : Nat) (o : Obj), N ≤ b → w.heap[b]? = some o → w'.heap[b]? = some o) ∧ (j ≠ 19 → ∀ (b : Nat) (o : Obj), w.heap[b]? = some o → w'.heap[b]? = some o)
theorem StepL.refl {N : Nat} {LV : Value} {j : Nat} (w : World) : StepL N LV j w w := ⟨Nat.le_refl _, fun _ _ _ h => h, fun _ _ _ h => h⟩
theorem StepL.below {N : Nat} {LV : Value} {j : Nat} {w w' : World} (hb : Below w.heap.size w w') : StepL N LV j w w' :=
  ⟨hb.size, fun _ _ _ h => blk_below h hb (blk_lt h), fun _ _ _ h => blk_below h hb (blk_lt h)⟩

/-- What holds in the region throughout: below N only the row that is appended to may have turned; that row is whole till the append. -/
def JL (B N : Nat) (LV : Value) (m : Nat) (xs : List Value) (w0 : World) (d : Nat → Bool) (w : World) : Prop :=
  (w.os = w0.os ∧ w.tape = w0.tape ∧ w.output = w0.output) ∧ N ≤ w.heap.size ∧ (∀ b, b < N → some b ≠ LV.ownBlock → w.heap[b]? = w0.heap[b]?) ∧ (d 19 = false → w.ownsRow B 28 3 LV m xs) ∧ ∀ q, LV.ownBlock = some q → q < N

theorem JL.same {B N : Nat} {LV : Value} {m : Nat} {xs : List Value} {w0 w : World} {d : Nat → Bool} (h : JL B N LV m xs w0 d w) (i : Nat) (hi : i ≠ 19) : JL B N LV m xs w0 (fun j => d j || j == i) w :=
  ⟨h.1, h.2.1, h.2.2.1, fun hd => h.2.2.2.1 (by
    have e : ((19 : Nat) == i) = false := by rw [beq_eq_false_iff_ne]; omega
    simpa [e] using hd), h.2.2.2.2⟩

theorem JL.below {B N : Nat} {LV : Value} {m : Nat} {xs : List Value} {w0 w w' : World} {d : Nat → Bool} (h : JL B N LV m xs w0 d w) (i : Nat) (hi : i ≠ 19) (hb : Below w.heap.size w w') : JL B N LV m xs w0 (fun j => d j || j == i) w' := by
  have h' := h.same i hi
  refine ⟨⟨hb.os.trans h.1.1, hb.tape.trans h.1.2.1, hb.output.trans h.1.2.2⟩, Nat.le_trans h.2.1 hb.size, fun b hbN hne => by rw [hb.block b (Nat.lt_of_lt_of_le hbN h.2.1)]; exact h.2.2.1 b hbN hne, fun hd => ?_, h.2.2.2.2⟩
  rcases Joins.ownsRow_forms (h'.2.2.2.1 hd) with ⟨rfl, rfl⟩ | ⟨g, cap, rfl⟩
  · exact ⟨(h'.2.2.2.1 hd).1, .inl ⟨rfl, rfl⟩⟩
  · exact own_keep (h'.2.2.2.1 hd) fun o ho => blk_below ho hb (blk_lt ho)

theorem app_link {B N m : Nat} {LV : Value} {xs : List Value} {S E : Int} {z : Option (List Int)} {w0 w : World} {d : Nat → Bool} {ops : Array Oper} {o : Oper} {a : Act} {Q : Exit → Act → World → Prop} {K : Act → World → Prop}
    (hg : o.guard = none) (s x : Operand) (ho : o.op = .call { callee := .builtin .append, args := #[s, x], argTypes := #[26, 26] }) (hJ : JL B N LV m xs w0 d w) (hd : d 19 = false)
    (hs : a.eval s = LV) {bb : Nat} {u : Value} (hx : a.eval x = .slice (some ⟨bb, 0, none⟩) 1 1) (hbb : N ≤ bb) (hcb : w.heap[bb]? = some (.cells #[.int .i64 S, .int .i64 E, u] 28)) (hu : AddrIs N w u z) (hue : ∃ aa l c, u = .slice aa l c) (hm : m ≤ 1000000) (hB : B ≤ N)
    (h : ∀ v w', LinkRow B N m xs S E z v w' → JL B N LV m xs w0 (fun j => d j || j == 19) w' → StepL N LV 19 w w' → K (a.put o.dst v) w') : o.wp Yba.prog a w K Q := by
  obtain ⟨i, hi, hz0, hz1, hz2⟩ := info_parts Yba.info28
  have hown := hJ.2.2.2.1 hd
  obtain ⟨c0, c1, c2, _⟩ := cells3 hcb
  refine wp_append_own w s x 26 ho B 28 i _ 3 40 Yba.underlying26 hi hz0 hz1 hz2 rfl (by omega) LV m xs hs hown ⟨bb, 0, none⟩ 1 1 [.int .i64 S, .int .i64 E, u] hx (by simp) ?_ ?_ (by simp [maxLen]; omega) (by omega) (Nat.le_trans hB hJ.2.1) ?_
  · intro j v hj
    rw [Go.WideShapes.add_plain, Nat.zero_add]
    match j, hj with
    | 0, hj => simp at hj; subst hj; exact c0
    | 1, hj => simp at hj; subst hj; exact c1
    | 2, hj => simp at hj; subst hj; exact c2
    | j + 3, hj => simp at hj
  · intro v hv
    obtain ⟨aa, l, c, rfl⟩ := hue
    simp at hv
    rcases hv with rfl | rfl | rfl <;> rfl
  · intro v' w' h2 h3 h4
    obtain ⟨g, cap, rfl⟩ := Joins.ownsRow_form h2 (by omega)
    have hgN := hJ.2.2.2.2
    have hk : ∀ b o, N ≤ b → w.heap[b]? = some o → w'.heap[b]? = some o := fun b o hb hbo => blk_grown hbo h3 (by intro e; have := hgN b e.symm; omega)
    refine h _ _ ⟨g, cap, u, rfl, h2, hu.keep (Nat.le_refl _) hk⟩ ⟨⟨h3.os.trans hJ.1.1, h3.tape.trans hJ.1.2.1, h3.output.trans hJ.1.2.2⟩, Nat.le_trans hJ.2.1 h3.size, fun b hb hne => ?_, fun hd' => by simp at hd', hgN⟩ ⟨h3.size, hk, fun hne => absurd rfl hne⟩
    rw [h3.block b (Nat.lt_of_lt_of_le hb hJ.2.1) hne]; exact hJ.2.2.1 b hb hne

def Goodl15 (B N b o n cap k m : Nat) (LV : Value) (xs : List Value) (S E : Int) (A : Value) (z : Option (List Int)) (i : Nat) (v : Value) (w : World) : Prop :=
  match i with
  | 0 => v = LV
  | 1 => v = Value.slice (some ⟨b, o, none⟩) n cap
  | 2 => v = Value.int .i64 (k : Nat)
  | 3 => v = Value.pointer (some ⟨b, o + k * 3, none⟩)
  | 4 => v = Value.pointer (some ⟨b, o + k * 3, none⟩)
  | 5 => v = Value.int .i64 S
  | 6 => v = Value.slice (some ⟨b, o, none⟩) n cap
  | 7 => v = Value.int .i64 (k : Nat)
  | 8 => v = Value.pointer (some ⟨b, o + k * 3, none⟩)
  | 9 => v = Value.pointer (some ⟨b, o + k * 3 + 1, none⟩)
  | 10 => v = Value.int .i64 E
  | 11 => v = Value.slice (some ⟨b, o, none⟩) n cap
  | 12 => v = Value.int .i64 (k : Nat)
  | 13 => v = Value.pointer (some ⟨b, o + k * 3, none⟩)
  | 14 => v = Value.pointer (some ⟨b, o + k * 3 + 2, none⟩)
  | 15 => v = A
  | 16 => AddrIs N w v z
  | 17 => ∃ u, v = .agg #[.int .i64 S, .int .i64 E, u] ∧ AddrIs N w u z
  | 18 => ∃ bb u, v = .slice (some ⟨bb, 0, none⟩) 1 1 ∧ N ≤ bb ∧ w.heap[bb]? = some (.cells #[.int .i64 S, .int .i64 E, u] 28) ∧ AddrIs N w u z
  | 19 => LinkRow B N m xs S E z v w
  | 20 => LinkRow B N m xs S E z v w
  | _ => True

theorem Goodl15.stable {B N b o n cap k m : Nat} {LV : Value} {xs : List Value} {S E : Int} {A : Value} {z : Option (List Int)} (i j : Nat) (v : Value) (w w' : World) (hij : i ≠ j) (hnd : j = 19 → i ≠ 20) (h : Goodl15 B N b o n cap k m LV xs S E A z i v w) (hS : StepL N LV j w w') : Goodl15 B N b o n cap k m LV xs S E A z i v w' := by
  by_cases h1 : i = 19 ∨ i = 20
  · have hj : j ≠ 19 := by rintro rfl; rcases h1 with rfl | rfl; exact hij rfl; exact hnd rfl rfl
    have hk := hS.2.2 hj
    rcases h1 with rfl | rfl <;> exact LinkRow.keep h hk
  · have hk := hS.2.1
    unfold Goodl15 at h ⊢
    split at h <;> first | exact h | (exact absurd (Or.inl rfl) h1) | (exact absurd (Or.inr rfl) h1) | exact h.keep (Nat.le_refl _) hk | (obtain ⟨u, e, r⟩ := h; exact ⟨u, e, r.keep (Nat.le_refl _) hk⟩) | (obtain ⟨bb, u, e, h2, h3, r⟩ := h; exact ⟨bb, u, e, h2, hk _ _ h2 h3, r.keep (Nat.le_refl _) hk⟩)

section
variable {B N b o n cap k m : Nat} {LV : Value} {xs : List Value} {S E : Int} {A : Value} {z : Option (List Int)} {a : Act} {w w0 : World} {Q : Exit → Act → World → Prop} {oo : Oper} {p : String} {d : Nat → Bool}

set_option maxRecDepth 100000 in
theorem l15_0 (ho : oo = { dst := some 55, op := Op.move (Operand.tmp 17), type := 26, pos := p, after := #[], guard := none }) (hJ : JL B N LV m xs w0 d w) (t17 : a.eval (.tmp 17) = LV) :
    Oper.wp Yba.prog oo a w (fun a' w' => ∃ v, a' = a.put oo.dst v ∧ Goodl15 B N b o n cap k m LV xs S E A z 0 v w' ∧ JL B N LV m xs w0 (fun j => d j || j == 0) w' ∧ StepL N LV 0 w w') Q := by
  subst ho
  simp only [Act.eval, Array.getD_eq_getD_getElem?] at t17
  exact wp_of_run (v := LV) (w' := w) (by go_simp) ⟨_, rfl, rfl, hJ.same 0 (by decide), StepL.refl _⟩

set_option maxRecDepth 100000 in
theorem l15_1 (ho : oo = { dst := some 56, op := Op.move (Operand.tmp 0), type := 22, pos := p, after := #[], guard := none }) (hJ : JL B N LV m xs w0 d w) (t0 : a.eval (.tmp 0) = Value.slice (some ⟨b, o, none⟩) n cap) :
    Oper.wp Yba.prog oo a w (fun a' w' => ∃ v, a' = a.put oo.dst v ∧ Goodl15 B N b o n cap k m LV xs S E A z 1 v w' ∧ JL B N LV m xs w0 (fun j => d j || j == 1) w' ∧ StepL N LV 1 w w') Q := by
  subst ho
  simp only [Act.eval, Array.getD_eq_getD_getElem?] at t0
  exact wp_of_run (v := Value.slice (some ⟨b, o, none⟩) n cap) (w' := w) (by go_simp) ⟨_, rfl, rfl, hJ.same 1 (by decide), StepL.refl _⟩

set_option maxRecDepth 100000 in
theorem l15_2 (ho : oo = { dst := some 57, op := Op.move (Operand.tmp 18), type := 3, pos := p, after := #[], guard := none }) (hJ : JL B N LV m xs w0 d w) (t18 : a.eval (.tmp 18) = Value.int .i64 (k : Nat)) :
    Oper.wp Yba.prog oo a w (fun a' w' => ∃ v, a' = a.put oo.dst v ∧ Goodl15 B N b o n cap k m LV xs S E A z 2 v w' ∧ JL B N LV m xs w0 (fun j => d j || j == 2) w' ∧ StepL N LV 2 w w') Q := by
  subst ho
  simp only [Act.eval, Array.getD_eq_getD_getElem?] at t18
  exact wp_of_run (v := Value.int .i64 (k : Nat)) (w' := w) (by go_simp) ⟨_, rfl, rfl, hJ.same 2 (by decide), StepL.refl _⟩

set_option maxRecDepth 100000 in
theorem l15_3 (ho : oo = { dst := some 58, op := Op.indexAddr 22 (Operand.tmp 56) (Operand.tmp 57), type := 0, pos := p, after := #[{ on := 1, ground := Ground.data }, { on := 2, ground := Ground.data }], guard := none }) (hJ : JL B N LV m xs w0 d w) (g1 : a.eval (.tmp 56) = Value.slice (some ⟨b, o, none⟩) n cap) (g2 : a.eval (.tmp 57) = Value.int .i64 (k : Nat)) (hk : k < n) (hn : n ≤ 1000000) :
    Oper.wp Yba.prog oo a w (fun a' w' => ∃ v, a' = a.put oo.dst v ∧ Goodl15 B N b o n cap k m LV xs S E A z 3 v w' ∧ JL B N LV m xs w0 (fun j => d j || j == 3) w' ∧ StepL N LV 3 w w') Q := by
  subst ho
  simp only [Act.eval, Array.getD_eq_getD_getElem?] at g1 g2
  exact wp_of_run (v := Value.pointer (some ⟨b, o + k * 3, none⟩)) (w' := w) (by go_simp) ⟨_, rfl, rfl, hJ.same 3 (by decide), StepL.refl _⟩

set_option maxRecDepth 100000 in
theorem l15_4 (ho : oo = { dst := some 59, op := Op.fieldAddr 25 (Operand.tmp 58) 0, type := 0, pos := p, after := #[{ on := 3, ground := Ground.data }], guard := none }) (hJ : JL B N LV m xs w0 d w) (g3 : a.eval (.tmp 58) = Value.pointer (some ⟨b, o + k * 3, none⟩)) :
    Oper.wp Yba.prog oo a w (fun a' w' => ∃ v, a' = a.put oo.dst v ∧ Goodl15 B N b o n cap k m LV xs S E A z 4 v w' ∧ JL B N LV m xs w0 (fun j => d j || j == 4) w' ∧ StepL N LV 4 w w') Q := by
  subst ho
  simp only [Act.eval, Array.getD_eq_getD_getElem?] at g3
  exact wp_of_run (v := Value.pointer (some ⟨b, o + k * 3, none⟩)) (w' := w) (by go_simp) ⟨_, rfl, rfl, hJ.same 4 (by decide), StepL.refl _⟩

set_option maxRecDepth 100000 in
theorem l15_5 (ho : oo = { dst := some 60, op := Op.load 3 (Operand.tmp 59), type := 3, pos := p, after := #[{ on := 4, ground := Ground.data }], guard := none }) (hJ : JL B N LV m xs w0 d w) (g4 : a.eval (.tmp 59) = Value.pointer (some ⟨b, o + k * 3, none⟩)) (hc : w.cell? ⟨b, o + k * 3, none⟩ = some (.int .i64 S)) :
    Oper.wp Yba.prog oo a w (fun a' w' => ∃ v, a' = a.put oo.dst v ∧ Goodl15 B N b o n cap k m LV xs S E A z 5 v w' ∧ JL B N LV m xs w0 (fun j => d j || j == 5) w' ∧ StepL N LV 5 w w') Q := by
  subst ho
  simp only [Act.eval, Array.getD_eq_getD_getElem?] at g4
  exact wp_of_run (v := Value.int .i64 S) (w' := w) (by go_simp) ⟨_, rfl, rfl, hJ.same 5 (by decide), StepL.refl _⟩

set_option maxRecDepth 100000 in
theorem l15_6 (ho : oo = { dst := some 61, op := Op.move (Operand.tmp 0), type := 22, pos := p, after := #[], guard := none }) (hJ : JL B N LV m xs w0 d w) (t0 : a.eval (.tmp 0) = Value.slice (some ⟨b, o, none⟩) n cap) :
    Oper.wp Yba.prog oo a w (fun a' w' => ∃ v, a' = a.put oo.dst v ∧ Goodl15 B N b o n cap k m LV xs S E A z 6 v w' ∧ JL B N LV m xs w0 (fun j => d j || j == 6) w' ∧ StepL N LV 6 w w') Q := by
  subst ho
  simp only [Act.eval, Array.getD_eq_getD_getElem?] at t0
  exact wp_of_run (v := Value.slice (some ⟨b, o, none⟩) n cap) (w' := w) (by go_simp) ⟨_, rfl, rfl, hJ.same 6 (by decide), StepL.refl _⟩

set_option maxRecDepth 100000 in
theorem l15_7 (ho : oo = { dst := some 62, op := Op.move (Operand.tmp 18), type := 3, pos := p, after := #[], guard := none }) (hJ : JL B N LV m xs w0 d w) (t18 : a.eval (.tmp 18) = Value.int .i64 (k : Nat)) :
    Oper.wp Yba.prog oo a w (fun a' w' => ∃ v, a' = a.put oo.dst v ∧ Goodl15 B N b o n cap k m LV xs S E A z 7 v w' ∧ JL B N LV m xs w0 (fun j => d j || j == 7) w' ∧ StepL N LV 7 w w') Q := by
  subst ho
  simp only [Act.eval, Array.getD_eq_getD_getElem?] at t18
  exact wp_of_run (v := Value.int .i64 (k : Nat)) (w' := w) (by go_simp) ⟨_, rfl, rfl, hJ.same 7 (by decide), StepL.refl _⟩

set_option maxRecDepth 100000 in
theorem l15_8 (ho : oo = { dst := some 63, op := Op.indexAddr 22 (Operand.tmp 61) (Operand.tmp 62), type := 0, pos := p, after := #[{ on := 6, ground := Ground.data }, { on := 7, ground := Ground.data }], guard := none }) (hJ : JL B N LV m xs w0 d w) (g6 : a.eval (.tmp 61) = Value.slice (some ⟨b, o, none⟩) n cap) (g7 : a.eval (.tmp 62) = Value.int .i64 (k : Nat)) (hk : k < n) (hn : n ≤ 1000000) :
    Oper.wp Yba.prog oo a w (fun a' w' => ∃ v, a' = a.put oo.dst v ∧ Goodl15 B N b o n cap k m LV xs S E A z 8 v w' ∧ JL B N LV m xs w0 (fun j => d j || j == 8) w' ∧ StepL N LV 8 w w') Q := by
  subst ho
  simp only [Act.eval, Array.getD_eq_getD_getElem?] at g6 g7
  exact wp_of_run (v := Value.pointer (some ⟨b, o + k * 3, none⟩)) (w' := w) (by go_simp) ⟨_, rfl, rfl, hJ.same 8 (by decide), StepL.refl _⟩

set_option maxRecDepth 100000 in
theorem l15_9 (ho : oo = { dst := some 64, op := Op.fieldAddr 25 (Operand.tmp 63) 1, type := 0, pos := p, after := #[{ on := 8, ground := Ground.data }], guard := none }) (hJ : JL B N LV m xs w0 d w) (g8 : a.eval (.tmp 63) = Value.pointer (some ⟨b, o + k * 3, none⟩)) :
    Oper.wp Yba.prog oo a w (fun a' w' => ∃ v, a' = a.put oo.dst v ∧ Goodl15 B N b o n cap k m LV xs S E A z 9 v w' ∧ JL B N LV m xs w0 (fun j => d j || j == 9) w' ∧ StepL N LV 9 w w') Q := by
  subst ho
  simp only [Act.eval, Array.getD_eq_getD_getElem?] at g8
  exact wp_of_run (v := Value.pointer (some ⟨b, o + k * 3 + 1, none⟩)) (w' := w) (by go_simp) ⟨_, rfl, rfl, hJ.same 9 (by decide), StepL.refl _⟩

set_option maxRecDepth 100000 in
theorem l15_10 (ho : oo = { dst := some 65, op := Op.load 3 (Operand.tmp 64), type := 3, pos := p, after := #[{ on := 9, ground := Ground.data }], guard := none }) (hJ : JL B N LV m xs w0 d w) (g9 : a.eval (.tmp 64) = Value.pointer (some ⟨b, o + k * 3 + 1, none⟩)) (hc : w.cell? ⟨b, o + k * 3 + 1, none⟩ = some (.int .i64 E)) :
    Oper.wp Yba.prog oo a w (fun a' w' => ∃ v, a' = a.put oo.dst v ∧ Goodl15 B N b o n cap k m LV xs S E A z 10 v w' ∧ JL B N LV m xs w0 (fun j => d j || j == 10) w' ∧ StepL N LV 10 w w') Q := by
  subst ho
  simp only [Act.eval, Array.getD_eq_getD_getElem?] at g9
  exact wp_of_run (v := Value.int .i64 E) (w' := w) (by go_simp) ⟨_, rfl, rfl, hJ.same 10 (by decide), StepL.refl _⟩

set_option maxRecDepth 100000 in
theorem l15_11 (ho : oo = { dst := some 66, op := Op.move (Operand.tmp 0), type := 22, pos := p, after := #[], guard := none }) (hJ : JL B N LV m xs w0 d w) (t0 : a.eval (.tmp 0) = Value.slice (some ⟨b, o, none⟩) n cap) :
    Oper.wp Yba.prog oo a w (fun a' w' => ∃ v, a' = a.put oo.dst v ∧ Goodl15 B N b o n cap k m LV xs S E A z 11 v w' ∧ JL B N LV m xs w0 (fun j => d j || j == 11) w' ∧ StepL N LV 11 w w') Q := by
  subst ho
  simp only [Act.eval, Array.getD_eq_getD_getElem?] at t0
  exact wp_of_run (v := Value.slice (some ⟨b, o, none⟩) n cap) (w' := w) (by go_simp) ⟨_, rfl, rfl, hJ.same 11 (by decide), StepL.refl _⟩

set_option maxRecDepth 100000 in
theorem l15_12 (ho : oo = { dst := some 67, op := Op.move (Operand.tmp 18), type := 3, pos := p, after := #[], guard := none }) (hJ : JL B N LV m xs w0 d w) (t18 : a.eval (.tmp 18) = Value.int .i64 (k : Nat)) :
    Oper.wp Yba.prog oo a w (fun a' w' => ∃ v, a' = a.put oo.dst v ∧ Goodl15 B N b o n cap k m LV xs S E A z 12 v w' ∧ JL B N LV m xs w0 (fun j => d j || j == 12) w' ∧ StepL N LV 12 w w') Q := by
  subst ho
  simp only [Act.eval, Array.getD_eq_getD_getElem?] at t18
  exact wp_of_run (v := Value.int .i64 (k : Nat)) (w' := w) (by go_simp) ⟨_, rfl, rfl, hJ.same 12 (by decide), StepL.refl _⟩

set_option maxRecDepth 100000 in
theorem l15_13 (ho : oo = { dst := some 68, op := Op.indexAddr 22 (Operand.tmp 66) (Operand.tmp 67), type := 0, pos := p, after := #[{ on := 11, ground := Ground.data }, { on := 12, ground := Ground.data }], guard := none }) (hJ : JL B N LV m xs w0 d w) (g11 : a.eval (.tmp 66) = Value.slice (some ⟨b, o, none⟩) n cap) (g12 : a.eval (.tmp 67) = Value.int .i64 (k : Nat)) (hk : k < n) (hn : n ≤ 1000000) :
    Oper.wp Yba.prog oo a w (fun a' w' => ∃ v, a' = a.put oo.dst v ∧ Goodl15 B N b o n cap k m LV xs S E A z 13 v w' ∧ JL B N LV m xs w0 (fun j => d j || j == 13) w' ∧ StepL N LV 13 w w') Q := by
  subst ho
  simp only [Act.eval, Array.getD_eq_getD_getElem?] at g11 g12
  exact wp_of_run (v := Value.pointer (some ⟨b, o + k * 3, none⟩)) (w' := w) (by go_simp) ⟨_, rfl, rfl, hJ.same 13 (by decide), StepL.refl _⟩

set_option maxRecDepth 100000 in
theorem l15_14 (ho : oo = { dst := some 69, op := Op.fieldAddr 25 (Operand.tmp 68) 2, type := 0, pos := p, after := #[{ on := 13, ground := Ground.data }], guard := none }) (hJ : JL B N LV m xs w0 d w) (g13 : a.eval (.tmp 68) = Value.pointer (some ⟨b, o + k * 3, none⟩)) :
    Oper.wp Yba.prog oo a w (fun a' w' => ∃ v, a' = a.put oo.dst v ∧ Goodl15 B N b o n cap k m LV xs S E A z 14 v w' ∧ JL B N LV m xs w0 (fun j => d j || j == 14) w' ∧ StepL N LV 14 w w') Q := by
  subst ho
  simp only [Act.eval, Array.getD_eq_getD_getElem?] at g13
  exact wp_of_run (v := Value.pointer (some ⟨b, o + k * 3 + 2, none⟩)) (w' := w) (by go_simp) ⟨_, rfl, rfl, hJ.same 14 (by decide), StepL.refl _⟩

set_option maxRecDepth 100000 in
theorem l15_15 (ho : oo = { dst := some 70, op := Op.load 23 (Operand.tmp 69), type := 23, pos := p, after := #[{ on := 14, ground := Ground.data }], guard := none }) (hJ : JL B N LV m xs w0 d w) (g14 : a.eval (.tmp 69) = Value.pointer (some ⟨b, o + k * 3 + 2, none⟩)) (hc : w.cell? ⟨b, o + k * 3 + 2, none⟩ = some A) (hA : ∃ aa l c, A = .slice aa l c) :
    Oper.wp Yba.prog oo a w (fun a' w' => ∃ v, a' = a.put oo.dst v ∧ Goodl15 B N b o n cap k m LV xs S E A z 15 v w' ∧ JL B N LV m xs w0 (fun j => d j || j == 15) w' ∧ StepL N LV 15 w w') Q := by
  subst ho
  simp only [Act.eval, Array.getD_eq_getD_getElem?] at g14
  obtain ⟨aa, l, c, rfl⟩ := hA
  exact wp_of_run (v := .slice aa l c) (w' := w) (by go_simp) ⟨_, rfl, rfl, hJ.same 15 (by decide), StepL.refl _⟩

set_option maxRecDepth 100000 in
theorem l15_16 (ho : oo = { dst := some 71, op := Op.call { callee := Callee.value (Operand.func 4), args := #[Operand.tmp 70], argTypes := #[23] }, type := 23, pos := p, after := #[{ on := 15, ground := Ground.data }], guard := none }) (hJ : JL B N LV m xs w0 d w) (g15 : a.eval (.tmp 70) = A) (hs : SrcIs w A z) (hN : N ≤ w.heap.size) :
    Oper.wp Yba.prog oo a w (fun a' w' => ∃ v, a' = a.put oo.dst v ∧ Goodl15 B N b o n cap k m LV xs S E A z 16 v w' ∧ JL B N LV m xs w0 (fun j => d j || j == 16) w' ∧ StepL N LV 16 w w') Q := by
  subst ho
  simp only [Act.eval, Array.getD_eq_getD_getElem?] at g15
  refine wp_of_call (f := 4) (args := #[A]) (w' := w) (by go_simp) ((clone_any A z w hs).mono fun e w' h => ?_)
  obtain ⟨u, rfl, ha, hb⟩ := h
  exact ⟨u, rfl, _, rfl, ha.keep hN fun _ _ _ h => h, hJ.below 16 (by decide) hb, StepL.below hb⟩

set_option maxRecDepth 100000 in
theorem l15_17 (ho : oo = { dst := some 72, op := Op.build 28 #[(0, Operand.tmp 60), (1, Operand.tmp 65), (2, Operand.tmp 71)], type := 28, pos := p, after := #[{ on := 5, ground := Ground.data }, { on := 10, ground := Ground.data }, { on := 16, ground := Ground.data }], guard := none }) (hJ : JL B N LV m xs w0 d w) (g5 : a.eval (.tmp 60) = Value.int .i64 S) (g10 : a.eval (.tmp 65) = Value.int .i64 E) (g16 : AddrIs N w (a.eval (.tmp 71)) z) :
    Oper.wp Yba.prog oo a w (fun a' w' => ∃ v, a' = a.put oo.dst v ∧ Goodl15 B N b o n cap k m LV xs S E A z 17 v w' ∧ JL B N LV m xs w0 (fun j => d j || j == 17) w' ∧ StepL N LV 17 w w') Q := by
  subst ho
  obtain ⟨aa, l, c, e⟩ := g16.form
  rw [e] at g16
  simp only [Act.eval, Array.getD_eq_getD_getElem?] at g5 g10 e
  exact wp_of_run (v := .agg #[.int .i64 S, .int .i64 E, .slice aa l c]) (w' := w) (by go_simp) ⟨_, rfl, ⟨_, rfl, g16⟩, hJ.same 17 (by decide), StepL.refl _⟩

set_option maxRecDepth 100000 in
theorem l15_18 (ho : oo = { dst := some 73, op := Op.buildSlice 26 1 #[(0, Operand.tmp 72)], type := 26, pos := p, after := #[{ on := 17, ground := Ground.data }], guard := none }) (hJ : JL B N LV m xs w0 d w) (g17 : ∃ u, a.eval (.tmp 72) = .agg #[.int .i64 S, .int .i64 E, u] ∧ AddrIs N w u z) (hN : N ≤ w.heap.size) :
    Oper.wp Yba.prog oo a w (fun a' w' => ∃ v, a' = a.put oo.dst v ∧ Goodl15 B N b o n cap k m LV xs S E A z 18 v w' ∧ JL B N LV m xs w0 (fun j => d j || j == 18) w' ∧ StepL N LV 18 w w') Q := by
  subst ho
  obtain ⟨u, e, g16⟩ := g17
  obtain ⟨aa, l, c, rfl⟩ := g16.form
  simp only [Act.eval, Array.getD_eq_getD_getElem?] at e
  have hb : Below w.heap.size w (w.alloc (.cells #[.int .i64 S, .int .i64 E, .slice aa l c] 28)) := (Below.refl _ _).alloc (Nat.le_refl _) _
  exact wp_of_run (v := .slice (some ⟨w.heap.size, 0, none⟩) 1 1) (w' := w.alloc (.cells #[.int .i64 S, .int .i64 E, .slice aa l c] 28)) (by go_simp) ⟨_, rfl, ⟨w.heap.size, _, rfl, hN, blk_new _ _, g16.keep (Nat.le_refl _) fun _ _ _ h => blk_alloc h _⟩, hJ.below 18 (by decide) hb, StepL.below hb⟩

set_option maxRecDepth 100000 in
theorem l15_19 (ho : oo = { dst := some 74, op := Op.call { callee := Callee.builtin Builtin.append, args := #[Operand.tmp 55, Operand.tmp 73], argTypes := #[26, 26] }, type := 26, pos := p, after := #[{ on := 0, ground := Ground.data }, { on := 18, ground := Ground.data }, { on := 16, ground := Ground.chain }], guard := none }) (hJ : JL B N LV m xs w0 d w) (g0 : a.eval (.tmp 55) = LV) (g18 : ∃ bb u, a.eval (.tmp 73) = .slice (some ⟨bb, 0, none⟩) 1 1 ∧ N ≤ bb ∧ w.heap[bb]? = some (.cells #[.int .i64 S, .int .i64 E, u] 28) ∧ AddrIs N w u z) (hd : d 19 = false) (hm : m ≤ 1000000) (hB : B ≤ N) :
    Oper.wp Yba.prog oo a w (fun a' w' => ∃ v, a' = a.put oo.dst v ∧ Goodl15 B N b o n cap k m LV xs S E A z 19 v w' ∧ JL B N LV m xs w0 (fun j => d j || j == 19) w' ∧ StepL N LV 19 w w') Q := by
  subst ho
  obtain ⟨bb, u, e, hbb, hcb, hu⟩ := g18
  obtain ⟨aa, l, c, hue⟩ := hu.form
  exact app_link (ops := #[]) rfl (.tmp 55) (.tmp 73) rfl hJ hd g0 e hbb hcb hu ⟨aa, l, c, hue⟩ hm hB fun v w' h1 h2 h3 => ⟨v, rfl, h1, h2, h3⟩

set_option maxRecDepth 100000 in
theorem l15_20 (ho : oo = { dst := some 17, op := Op.assign (Operand.tmp 74), type := 26, pos := p, after := #[{ on := 19, ground := Ground.data }, { on := 19, ground := Ground.chain }, { on := 0, ground := Ground.phase }, { on := 1, ground := Ground.phase }, { on := 2, ground := Ground.phase }, { on := 3, ground := Ground.phase }, { on := 4, ground := Ground.phase }, { on := 5, ground := Ground.phase }, { on := 6, ground := Ground.phase }, { on := 7, ground := Ground.phase }, { on := 8, ground := Ground.phase }, { on := 9, ground := Ground.phase }, { on := 10, ground := Ground.phase }, { on := 11, ground := Ground.phase }, { on := 12, ground := Ground.phase }, { on := 13, ground := Ground.phase }, { on := 14, ground := Ground.phase }, { on := 15, ground := Ground.phase }, { on := 16, ground := Ground.phase }, { on := 17, ground := Ground.phase }, { on := 18, ground := Ground.phase }, { on := 19, ground := Ground.phase }], guard := none }) (hJ : JL B N LV m xs w0 d w) (g19 : LinkRow B N m xs S E z (a.eval (.tmp 74)) w) :
    Oper.wp Yba.prog oo a w (fun a' w' => ∃ v, a' = a.put oo.dst v ∧ Goodl15 B N b o n cap k m LV xs S E A z 20 v w' ∧ JL B N LV m xs w0 (fun j => d j || j == 20) w' ∧ StepL N LV 20 w w') Q := by
  subst ho
  exact wp_of_run (v := a.eval (.tmp 74)) (w' := w) (by go_simp) ⟨_, rfl, g19, hJ.same 20 (by decide), StepL.refl _⟩

end
def Goodl32 (B N b o n cap k m : Nat) (LV : Value) (xs : List Value) (S E : Int) (A : Value) (z : Option (List Int)) (i : Nat) (v : Value) (w : World) : Prop :=
  match i with
  | 0 => v = LV
  | 1 => v = Value.slice (some ⟨b, o, none⟩) n cap
  | 2 => v = Value.int .i64 (k : Nat)
  | 3 => v = Value.pointer (some ⟨b, o + k * 3, none⟩)
  | 4 => v = Value.pointer (some ⟨b, o + k * 3, none⟩)
  | 5 => v = Value.int .i64 S
  | 6 => v = Value.slice (some ⟨b, o, none⟩) n cap
  | 7 => v = Value.int .i64 (k : Nat)
  | 8 => v = Value.pointer (some ⟨b, o + k * 3, none⟩)
  | 9 => v = Value.pointer (some ⟨b, o + k * 3 + 1, none⟩)
  | 10 => v = Value.int .i64 E
  | 11 => v = Value.slice (some ⟨b, o, none⟩) n cap
  | 12 => v = Value.int .i64 (k : Nat)
  | 13 => v = Value.pointer (some ⟨b, o + k * 3, none⟩)
  | 14 => v = Value.pointer (some ⟨b, o + k * 3 + 2, none⟩)
  | 15 => v = A
  | 16 => AddrIs N w v z
  | 17 => ∃ u, v = .agg #[.int .i64 S, .int .i64 E, u] ∧ AddrIs N w u z
  | 18 => ∃ bb u, v = .slice (some ⟨bb, 0, none⟩) 1 1 ∧ N ≤ bb ∧ w.heap[bb]? = some (.cells #[.int .i64 S, .int .i64 E, u] 28) ∧ AddrIs N w u z
  | 19 => LinkRow B N m xs S E z v w
  | 20 => LinkRow B N m xs S E z v w
  | _ => True

theorem Goodl32.stable {B N b o n cap k m : Nat} {LV : Value} {xs : List Value} {S E : Int} {A : Value} {z : Option (List Int)} (i j : Nat) (v : Value) (w w' : World) (hij : i ≠ j) (hnd : j = 19 → i ≠ 20) (h : Goodl32 B N b o n cap k m LV xs S E A z i v w) (hS : StepL N LV j w w') : Goodl32 B N b o n cap k m LV xs S E A z i v w' := by
  by_cases h1 : i = 19 ∨ i = 20
  · have hj : j ≠ 19 := by rintro rfl; rcases h1 with rfl | rfl; exact hij rfl; exact hnd rfl rfl
    have hk := hS.2.2 hj
    rcases h1 with rfl | rfl <;> exact LinkRow.keep h hk
  · have hk := hS.2.1
    unfold Goodl32 at h ⊢
    split at h <;> first | exact h | (exact absurd (Or.inl rfl) h1) | (exact absurd (Or.inr rfl) h1) | exact h.keep (Nat.le_refl _) hk | (obtain ⟨u, e, r⟩ := h; exact ⟨u, e, r.keep (Nat.le_refl _) hk⟩) | (obtain ⟨bb, u, e, h2, h3, r⟩ := h; exact ⟨bb, u, e, h2, hk _ _ h2 h3, r.keep (Nat.le_refl _) hk⟩)

section
variable {B N b o n cap k m : Nat} {LV : Value} {xs : List Value} {S E : Int} {A : Value} {z : Option (List Int)} {a : Act} {w w0 : World} {Q : Exit → Act → World → Prop} {oo : Oper} {p : String} {d : Nat → Bool}

set_option maxRecDepth 100000 in
theorem l32_0 (ho : oo = { dst := some 106, op := Op.move (Operand.tmp 21), type := 26, pos := p, after := #[], guard := none }) (hJ : JL B N LV m xs w0 d w) (t21 : a.eval (.tmp 21) = LV) :
    Oper.wp Yba.prog oo a w (fun a' w' => ∃ v, a' = a.put oo.dst v ∧ Goodl32 B N b o n cap k m LV xs S E A z 0 v w' ∧ JL B N LV m xs w0 (fun j => d j || j == 0) w' ∧ StepL N LV 0 w w') Q := by
  subst ho
  simp only [Act.eval, Array.getD_eq_getD_getElem?] at t21
  exact wp_of_run (v := LV) (w' := w) (by go_simp) ⟨_, rfl, rfl, hJ.same 0 (by decide), StepL.refl _⟩

set_option maxRecDepth 100000 in
theorem l32_1 (ho : oo = { dst := some 107, op := Op.move (Operand.tmp 17), type := 26, pos := p, after := #[], guard := none }) (hJ : JL B N LV m xs w0 d w) (t17 : a.eval (.tmp 17) = Value.slice (some ⟨b, o, none⟩) n cap) :
    Oper.wp Yba.prog oo a w (fun a' w' => ∃ v, a' = a.put oo.dst v ∧ Goodl32 B N b o n cap k m LV xs S E A z 1 v w' ∧ JL B N LV m xs w0 (fun j => d j || j == 1) w' ∧ StepL N LV 1 w w') Q := by
  subst ho
  simp only [Act.eval, Array.getD_eq_getD_getElem?] at t17
  exact wp_of_run (v := Value.slice (some ⟨b, o, none⟩) n cap) (w' := w) (by go_simp) ⟨_, rfl, rfl, hJ.same 1 (by decide), StepL.refl _⟩

set_option maxRecDepth 100000 in
theorem l32_2 (ho : oo = { dst := some 108, op := Op.move (Operand.tmp 22), type := 3, pos := p, after := #[], guard := none }) (hJ : JL B N LV m xs w0 d w) (t22 : a.eval (.tmp 22) = Value.int .i64 (k : Nat)) :
    Oper.wp Yba.prog oo a w (fun a' w' => ∃ v, a' = a.put oo.dst v ∧ Goodl32 B N b o n cap k m LV xs S E A z 2 v w' ∧ JL B N LV m xs w0 (fun j => d j || j == 2) w' ∧ StepL N LV 2 w w') Q := by
  subst ho
  simp only [Act.eval, Array.getD_eq_getD_getElem?] at t22
  exact wp_of_run (v := Value.int .i64 (k : Nat)) (w' := w) (by go_simp) ⟨_, rfl, rfl, hJ.same 2 (by decide), StepL.refl _⟩

set_option maxRecDepth 100000 in
theorem l32_3 (ho : oo = { dst := some 109, op := Op.indexAddr 26 (Operand.tmp 107) (Operand.tmp 108), type := 0, pos := p, after := #[{ on := 1, ground := Ground.data }, { on := 2, ground := Ground.data }], guard := none }) (hJ : JL B N LV m xs w0 d w) (g1 : a.eval (.tmp 107) = Value.slice (some ⟨b, o, none⟩) n cap) (g2 : a.eval (.tmp 108) = Value.int .i64 (k : Nat)) (hk : k < n) (hn : n ≤ 1000000) :
    Oper.wp Yba.prog oo a w (fun a' w' => ∃ v, a' = a.put oo.dst v ∧ Goodl32 B N b o n cap k m LV xs S E A z 3 v w' ∧ JL B N LV m xs w0 (fun j => d j || j == 3) w' ∧ StepL N LV 3 w w') Q := by
  subst ho
  simp only [Act.eval, Array.getD_eq_getD_getElem?] at g1 g2
  exact wp_of_run (v := Value.pointer (some ⟨b, o + k * 3, none⟩)) (w' := w) (by go_simp) ⟨_, rfl, rfl, hJ.same 3 (by decide), StepL.refl _⟩

set_option maxRecDepth 100000 in
theorem l32_4 (ho : oo = { dst := some 110, op := Op.fieldAddr 28 (Operand.tmp 109) 0, type := 0, pos := p, after := #[{ on := 3, ground := Ground.data }], guard := none }) (hJ : JL B N LV m xs w0 d w) (g3 : a.eval (.tmp 109) = Value.pointer (some ⟨b, o + k * 3, none⟩)) :
    Oper.wp Yba.prog oo a w (fun a' w' => ∃ v, a' = a.put oo.dst v ∧ Goodl32 B N b o n cap k m LV xs S E A z 4 v w' ∧ JL B N LV m xs w0 (fun j => d j || j == 4) w' ∧ StepL N LV 4 w w') Q := by
  subst ho
  simp only [Act.eval, Array.getD_eq_getD_getElem?] at g3
  exact wp_of_run (v := Value.pointer (some ⟨b, o + k * 3, none⟩)) (w' := w) (by go_simp) ⟨_, rfl, rfl, hJ.same 4 (by decide), StepL.refl _⟩

set_option maxRecDepth 100000 in
theorem l32_5 (ho : oo = { dst := some 111, op := Op.load 3 (Operand.tmp 110), type := 3, pos := p, after := #[{ on := 4, ground := Ground.data }], guard := none }) (hJ : JL B N LV m xs w0 d w) (g4 : a.eval (.tmp 110) = Value.pointer (some ⟨b, o + k * 3, none⟩)) (hc : w.cell? ⟨b, o + k * 3, none⟩ = some (.int .i64 S)) :
    Oper.wp Yba.prog oo a w (fun a' w' => ∃ v, a' = a.put oo.dst v ∧ Goodl32 B N b o n cap k m LV xs S E A z 5 v w' ∧ JL B N LV m xs w0 (fun j => d j || j == 5) w' ∧ StepL N LV 5 w w') Q := by
  subst ho
  simp only [Act.eval, Array.getD_eq_getD_getElem?] at g4
  exact wp_of_run (v := Value.int .i64 S) (w' := w) (by go_simp) ⟨_, rfl, rfl, hJ.same 5 (by decide), StepL.refl _⟩

set_option maxRecDepth 100000 in
theorem l32_6 (ho : oo = { dst := some 112, op := Op.move (Operand.tmp 17), type := 26, pos := p, after := #[], guard := none }) (hJ : JL B N LV m xs w0 d w) (t17 : a.eval (.tmp 17) = Value.slice (some ⟨b, o, none⟩) n cap) :
    Oper.wp Yba.prog oo a w (fun a' w' => ∃ v, a' = a.put oo.dst v ∧ Goodl32 B N b o n cap k m LV xs S E A z 6 v w' ∧ JL B N LV m xs w0 (fun j => d j || j == 6) w' ∧ StepL N LV 6 w w') Q := by
  subst ho
  simp only [Act.eval, Array.getD_eq_getD_getElem?] at t17
  exact wp_of_run (v := Value.slice (some ⟨b, o, none⟩) n cap) (w' := w) (by go_simp) ⟨_, rfl, rfl, hJ.same 6 (by decide), StepL.refl _⟩

set_option maxRecDepth 100000 in
theorem l32_7 (ho : oo = { dst := some 113, op := Op.move (Operand.tmp 22), type := 3, pos := p, after := #[], guard := none }) (hJ : JL B N LV m xs w0 d w) (t22 : a.eval (.tmp 22) = Value.int .i64 (k : Nat)) :
    Oper.wp Yba.prog oo a w (fun a' w' => ∃ v, a' = a.put oo.dst v ∧ Goodl32 B N b o n cap k m LV xs S E A z 7 v w' ∧ JL B N LV m xs w0 (fun j => d j || j == 7) w' ∧ StepL N LV 7 w w') Q := by
  subst ho
  simp only [Act.eval, Array.getD_eq_getD_getElem?] at t22
  exact wp_of_run (v := Value.int .i64 (k : Nat)) (w' := w) (by go_simp) ⟨_, rfl, rfl, hJ.same 7 (by decide), StepL.refl _⟩

set_option maxRecDepth 100000 in
theorem l32_8 (ho : oo = { dst := some 114, op := Op.indexAddr 26 (Operand.tmp 112) (Operand.tmp 113), type := 0, pos := p, after := #[{ on := 6, ground := Ground.data }, { on := 7, ground := Ground.data }], guard := none }) (hJ : JL B N LV m xs w0 d w) (g6 : a.eval (.tmp 112) = Value.slice (some ⟨b, o, none⟩) n cap) (g7 : a.eval (.tmp 113) = Value.int .i64 (k : Nat)) (hk : k < n) (hn : n ≤ 1000000) :
    Oper.wp Yba.prog oo a w (fun a' w' => ∃ v, a' = a.put oo.dst v ∧ Goodl32 B N b o n cap k m LV xs S E A z 8 v w' ∧ JL B N LV m xs w0 (fun j => d j || j == 8) w' ∧ StepL N LV 8 w w') Q := by
  subst ho
  simp only [Act.eval, Array.getD_eq_getD_getElem?] at g6 g7
  exact wp_of_run (v := Value.pointer (some ⟨b, o + k * 3, none⟩)) (w' := w) (by go_simp) ⟨_, rfl, rfl, hJ.same 8 (by decide), StepL.refl _⟩

set_option maxRecDepth 100000 in
theorem l32_9 (ho : oo = { dst := some 115, op := Op.fieldAddr 28 (Operand.tmp 114) 1, type := 0, pos := p, after := #[{ on := 8, ground := Ground.data }], guard := none }) (hJ : JL B N LV m xs w0 d w) (g8 : a.eval (.tmp 114) = Value.pointer (some ⟨b, o + k * 3, none⟩)) :
    Oper.wp Yba.prog oo a w (fun a' w' => ∃ v, a' = a.put oo.dst v ∧ Goodl32 B N b o n cap k m LV xs S E A z 9 v w' ∧ JL B N LV m xs w0 (fun j => d j || j == 9) w' ∧ StepL N LV 9 w w') Q := by
  subst ho
  simp only [Act.eval, Array.getD_eq_getD_getElem?] at g8
  exact wp_of_run (v := Value.pointer (some ⟨b, o + k * 3 + 1, none⟩)) (w' := w) (by go_simp) ⟨_, rfl, rfl, hJ.same 9 (by decide), StepL.refl _⟩

set_option maxRecDepth 100000 in
theorem l32_10 (ho : oo = { dst := some 116, op := Op.load 3 (Operand.tmp 115), type := 3, pos := p, after := #[{ on := 9, ground := Ground.data }], guard := none }) (hJ : JL B N LV m xs w0 d w) (g9 : a.eval (.tmp 115) = Value.pointer (some ⟨b, o + k * 3 + 1, none⟩)) (hc : w.cell? ⟨b, o + k * 3 + 1, none⟩ = some (.int .i64 E)) :
    Oper.wp Yba.prog oo a w (fun a' w' => ∃ v, a' = a.put oo.dst v ∧ Goodl32 B N b o n cap k m LV xs S E A z 10 v w' ∧ JL B N LV m xs w0 (fun j => d j || j == 10) w' ∧ StepL N LV 10 w w') Q := by
  subst ho
  simp only [Act.eval, Array.getD_eq_getD_getElem?] at g9
  exact wp_of_run (v := Value.int .i64 E) (w' := w) (by go_simp) ⟨_, rfl, rfl, hJ.same 10 (by decide), StepL.refl _⟩

set_option maxRecDepth 100000 in
theorem l32_11 (ho : oo = { dst := some 117, op := Op.move (Operand.tmp 17), type := 26, pos := p, after := #[], guard := none }) (hJ : JL B N LV m xs w0 d w) (t17 : a.eval (.tmp 17) = Value.slice (some ⟨b, o, none⟩) n cap) :
    Oper.wp Yba.prog oo a w (fun a' w' => ∃ v, a' = a.put oo.dst v ∧ Goodl32 B N b o n cap k m LV xs S E A z 11 v w' ∧ JL B N LV m xs w0 (fun j => d j || j == 11) w' ∧ StepL N LV 11 w w') Q := by
  subst ho
  simp only [Act.eval, Array.getD_eq_getD_getElem?] at t17
  exact wp_of_run (v := Value.slice (some ⟨b, o, none⟩) n cap) (w' := w) (by go_simp) ⟨_, rfl, rfl, hJ.same 11 (by decide), StepL.refl _⟩

set_option maxRecDepth 100000 in
theorem l32_12 (ho : oo = { dst := some 118, op := Op.move (Operand.tmp 22), type := 3, pos := p, after := #[], guard := none }) (hJ : JL B N LV m xs w0 d w) (t22 : a.eval (.tmp 22) = Value.int .i64 (k : Nat)) :
    Oper.wp Yba.prog oo a w (fun a' w' => ∃ v, a' = a.put oo.dst v ∧ Goodl32 B N b o n cap k m LV xs S E A z 12 v w' ∧ JL B N LV m xs w0 (fun j => d j || j == 12) w' ∧ StepL N LV 12 w w') Q := by
  subst ho
  simp only [Act.eval, Array.getD_eq_getD_getElem?] at t22
  exact wp_of_run (v := Value.int .i64 (k : Nat)) (w' := w) (by go_simp) ⟨_, rfl, rfl, hJ.same 12 (by decide), StepL.refl _⟩

set_option maxRecDepth 100000 in
theorem l32_13 (ho : oo = { dst := some 119, op := Op.indexAddr 26 (Operand.tmp 117) (Operand.tmp 118), type := 0, pos := p, after := #[{ on := 11, ground := Ground.data }, { on := 12, ground := Ground.data }], guard := none }) (hJ : JL B N LV m xs w0 d w) (g11 : a.eval (.tmp 117) = Value.slice (some ⟨b, o, none⟩) n cap) (g12 : a.eval (.tmp 118) = Value.int .i64 (k : Nat)) (hk : k < n) (hn : n ≤ 1000000) :
    Oper.wp Yba.prog oo a w (fun a' w' => ∃ v, a' = a.put oo.dst v ∧ Goodl32 B N b o n cap k m LV xs S E A z 13 v w' ∧ JL B N LV m xs w0 (fun j => d j || j == 13) w' ∧ StepL N LV 13 w w') Q := by
  subst ho
  simp only [Act.eval, Array.getD_eq_getD_getElem?] at g11 g12
  exact wp_of_run (v := Value.pointer (some ⟨b, o + k * 3, none⟩)) (w' := w) (by go_simp) ⟨_, rfl, rfl, hJ.same 13 (by decide), StepL.refl _⟩

set_option maxRecDepth 100000 in
theorem l32_14 (ho : oo = { dst := some 120, op := Op.fieldAddr 28 (Operand.tmp 119) 2, type := 0, pos := p, after := #[{ on := 13, ground := Ground.data }], guard := none }) (hJ : JL B N LV m xs w0 d w) (g13 : a.eval (.tmp 119) = Value.pointer (some ⟨b, o + k * 3, none⟩)) :
    Oper.wp Yba.prog oo a w (fun a' w' => ∃ v, a' = a.put oo.dst v ∧ Goodl32 B N b o n cap k m LV xs S E A z 14 v w' ∧ JL B N LV m xs w0 (fun j => d j || j == 14) w' ∧ StepL N LV 14 w w') Q := by
  subst ho
  simp only [Act.eval, Array.getD_eq_getD_getElem?] at g13
  exact wp_of_run (v := Value.pointer (some ⟨b, o + k * 3 + 2, none⟩)) (w' := w) (by go_simp) ⟨_, rfl, rfl, hJ.same 14 (by decide), StepL.refl _⟩

set_option maxRecDepth 100000 in
theorem l32_15 (ho : oo = { dst := some 121, op := Op.load 23 (Operand.tmp 120), type := 23, pos := p, after := #[{ on := 14, ground := Ground.data }], guard := none }) (hJ : JL B N LV m xs w0 d w) (g14 : a.eval (.tmp 120) = Value.pointer (some ⟨b, o + k * 3 + 2, none⟩)) (hc : w.cell? ⟨b, o + k * 3 + 2, none⟩ = some A) (hA : ∃ aa l c, A = .slice aa l c) :
    Oper.wp Yba.prog oo a w (fun a' w' => ∃ v, a' = a.put oo.dst v ∧ Goodl32 B N b o n cap k m LV xs S E A z 15 v w' ∧ JL B N LV m xs w0 (fun j => d j || j == 15) w' ∧ StepL N LV 15 w w') Q := by
  subst ho
  simp only [Act.eval, Array.getD_eq_getD_getElem?] at g14
  obtain ⟨aa, l, c, rfl⟩ := hA
  exact wp_of_run (v := .slice aa l c) (w' := w) (by go_simp) ⟨_, rfl, rfl, hJ.same 15 (by decide), StepL.refl _⟩

set_option maxRecDepth 100000 in
theorem l32_16 (ho : oo = { dst := some 122, op := Op.call { callee := Callee.value (Operand.func 4), args := #[Operand.tmp 121], argTypes := #[23] }, type := 23, pos := p, after := #[{ on := 15, ground := Ground.data }], guard := none }) (hJ : JL B N LV m xs w0 d w) (g15 : a.eval (.tmp 121) = A) (hs : SrcIs w A z) (hN : N ≤ w.heap.size) :
    Oper.wp Yba.prog oo a w (fun a' w' => ∃ v, a' = a.put oo.dst v ∧ Goodl32 B N b o n cap k m LV xs S E A z 16 v w' ∧ JL B N LV m xs w0 (fun j => d j || j == 16) w' ∧ StepL N LV 16 w w') Q := by
  subst ho
  simp only [Act.eval, Array.getD_eq_getD_getElem?] at g15
  refine wp_of_call (f := 4) (args := #[A]) (w' := w) (by go_simp) ((clone_any A z w hs).mono fun e w' h => ?_)
  obtain ⟨u, rfl, ha, hb⟩ := h
  exact ⟨u, rfl, _, rfl, ha.keep hN fun _ _ _ h => h, hJ.below 16 (by decide) hb, StepL.below hb⟩

set_option maxRecDepth 100000 in
theorem l32_17 (ho : oo = { dst := some 123, op := Op.build 28 #[(0, Operand.tmp 111), (1, Operand.tmp 116), (2, Operand.tmp 122)], type := 28, pos := p, after := #[{ on := 5, ground := Ground.data }, { on := 10, ground := Ground.data }, { on := 16, ground := Ground.data }], guard := none }) (hJ : JL B N LV m xs w0 d w) (g5 : a.eval (.tmp 111) = Value.int .i64 S) (g10 : a.eval (.tmp 116) = Value.int .i64 E) (g16 : AddrIs N w (a.eval (.tmp 122)) z) :
    Oper.wp Yba.prog oo a w (fun a' w' => ∃ v, a' = a.put oo.dst v ∧ Goodl32 B N b o n cap k m LV xs S E A z 17 v w' ∧ JL B N LV m xs w0 (fun j => d j || j == 17) w' ∧ StepL N LV 17 w w') Q := by
  subst ho
  obtain ⟨aa, l, c, e⟩ := g16.form
  rw [e] at g16
  simp only [Act.eval, Array.getD_eq_getD_getElem?] at g5 g10 e
  exact wp_of_run (v := .agg #[.int .i64 S, .int .i64 E, .slice aa l c]) (w' := w) (by go_simp) ⟨_, rfl, ⟨_, rfl, g16⟩, hJ.same 17 (by decide), StepL.refl _⟩

set_option maxRecDepth 100000 in
theorem l32_18 (ho : oo = { dst := some 124, op := Op.buildSlice 26 1 #[(0, Operand.tmp 123)], type := 26, pos := p, after := #[{ on := 17, ground := Ground.data }], guard := none }) (hJ : JL B N LV m xs w0 d w) (g17 : ∃ u, a.eval (.tmp 123) = .agg #[.int .i64 S, .int .i64 E, u] ∧ AddrIs N w u z) (hN : N ≤ w.heap.size) :
    Oper.wp Yba.prog oo a w (fun a' w' => ∃ v, a' = a.put oo.dst v ∧ Goodl32 B N b o n cap k m LV xs S E A z 18 v w' ∧ JL B N LV m xs w0 (fun j => d j || j == 18) w' ∧ StepL N LV 18 w w') Q := by
  subst ho
  obtain ⟨u, e, g16⟩ := g17
  obtain ⟨aa, l, c, rfl⟩ := g16.form
  simp only [Act.eval, Array.getD_eq_getD_getElem?] at e
  have hb : Below w.heap.size w (w.alloc (.cells #[.int .i64 S, .int .i64 E, .slice aa l c] 28)) := (Below.refl _ _).alloc (Nat.le_refl _) _
  exact wp_of_run (v := .slice (some ⟨w.heap.size, 0, none⟩) 1 1) (w' := w.alloc (.cells #[.int .i64 S, .int .i64 E, .slice aa l c] 28)) (by go_simp) ⟨_, rfl, ⟨w.heap.size, _, rfl, hN, blk_new _ _, g16.keep (Nat.le_refl _) fun _ _ _ h => blk_alloc h _⟩, hJ.below 18 (by decide) hb, StepL.below hb⟩

set_option maxRecDepth 100000 in
theorem l32_19 (ho : oo = { dst := some 125, op := Op.call { callee := Callee.builtin Builtin.append, args := #[Operand.tmp 106, Operand.tmp 124], argTypes := #[26, 26] }, type := 26, pos := p, after := #[{ on := 0, ground := Ground.data }, { on := 18, ground := Ground.data }, { on := 16, ground := Ground.chain }], guard := none }) (hJ : JL B N LV m xs w0 d w) (g0 : a.eval (.tmp 106) = LV) (g18 : ∃ bb u, a.eval (.tmp 124) = .slice (some ⟨bb, 0, none⟩) 1 1 ∧ N ≤ bb ∧ w.heap[bb]? = some (.cells #[.int .i64 S, .int .i64 E, u] 28) ∧ AddrIs N w u z) (hd : d 19 = false) (hm : m ≤ 1000000) (hB : B ≤ N) :
    Oper.wp Yba.prog oo a w (fun a' w' => ∃ v, a' = a.put oo.dst v ∧ Goodl32 B N b o n cap k m LV xs S E A z 19 v w' ∧ JL B N LV m xs w0 (fun j => d j || j == 19) w' ∧ StepL N LV 19 w w') Q := by
  subst ho
  obtain ⟨bb, u, e, hbb, hcb, hu⟩ := g18
  obtain ⟨aa, l, c, hue⟩ := hu.form
  exact app_link (ops := #[]) rfl (.tmp 106) (.tmp 124) rfl hJ hd g0 e hbb hcb hu ⟨aa, l, c, hue⟩ hm hB fun v w' h1 h2 h3 => ⟨v, rfl, h1, h2, h3⟩

set_option maxRecDepth 100000 in
theorem l32_20 (ho : oo = { dst := some 21, op := Op.assign (Operand.tmp 125), type := 26, pos := p, after := #[{ on := 19, ground := Ground.data }, { on := 19, ground := Ground.chain }, { on := 0, ground := Ground.phase }, { on := 1, ground := Ground.phase }, { on := 2, ground := Ground.phase }, { on := 3, ground := Ground.phase }, { on := 4, ground := Ground.phase }, { on := 5, ground := Ground.phase }, { on := 6, ground := Ground.phase }, { on := 7, ground := Ground.phase }, { on := 8, ground := Ground.phase }, { on := 9, ground := Ground.phase }, { on := 10, ground := Ground.phase }, { on := 11, ground := Ground.phase }, { on := 12, ground := Ground.phase }, { on := 13, ground := Ground.phase }, { on := 14, ground := Ground.phase }, { on := 15, ground := Ground.phase }, { on := 16, ground := Ground.phase }, { on := 17, ground := Ground.phase }, { on := 18, ground := Ground.phase }, { on := 19, ground := Ground.phase }], guard := none }) (hJ : JL B N LV m xs w0 d w) (g19 : LinkRow B N m xs S E z (a.eval (.tmp 125)) w) :
    Oper.wp Yba.prog oo a w (fun a' w' => ∃ v, a' = a.put oo.dst v ∧ Goodl32 B N b o n cap k m LV xs S E A z 20 v w' ∧ JL B N LV m xs w0 (fun j => d j || j == 20) w' ∧ StepL N LV 20 w w') Q := by
  subst ho
  exact wp_of_run (v := a.eval (.tmp 125)) (w' := w) (by go_simp) ⟨_, rfl, g19, hJ.same 20 (by decide), StepL.refl _⟩

end

end Go.Proofs.Ybulkexpec
