/- LawS194114CWhole: region 47 (two nodes made and appended to the values node), in whatever order: op by op. -/
import Derived.Test.YbulkexpbyStates
namespace Go.Proofs.Ybulkexpby
open Go.RowKit Go.PK Go.SM Go.RegInv
set_option linter.unusedVariables false

def nodeObj (s : ByteArray) : Obj := .cells (nodeCells 1 s (.slice none 0 0)) 49
def nodeAgg (s : ByteArray) : Value := .agg #[.int .u32 1, .int .u32 0, .string { data := #[] }, .string s, .string { data := #[] }, .pointer none, .slice none 0 0, .int .i64 0, .int .i64 0]

theorem wp_of_skip {P : Program} {Q : Exit → Act → World → Prop} {o : Oper} {a : Act} {w w' : World} {next : Act → World → Prop} (h : (execOp a.eval o).run P w = .ok .skip w') (hn : next (a.put o.dst undef) w') : o.wp P a w next Q := by
  unfold Oper.wp; rw [h]; exact hn

def Step47 (N rb j : Nat) (w w' : World) : Prop :=
  w.heap.size ≤ w'.heap.size ∧ (∀ (b : Nat) (o : Obj), N ≤ b → w.heap[b]? = some o → w'.heap[b]? = some o) ∧ (j ≠ 14 → ∀ (b : Nat) (o : Obj), b ≠ rb → w.heap[b]? = some o → w'.heap[b]? = some o)
theorem Step47.refl {N rb j : Nat} (w : World) : Step47 N rb j w w := ⟨Nat.le_refl _, fun _ _ _ h => h, fun _ _ _ _ h => h⟩
theorem Step47.below {N rb j : Nat} {w w' : World} (hb : Below w.heap.size w w') : Step47 N rb j w w' :=
  ⟨hb.size, fun _ _ _ h => blk_below h hb (blk_lt h), fun _ _ _ _ h => blk_below h hb (blk_lt h)⟩

def Fin47 (B N rb m : Nat) (xs : List Value) (kt vt : ByteArray) (w : World) : Prop :=
  ∃ (g cap p q : Nat), w.heap[rb]? = some (.cells (nodeCells 2 ByteArray.empty (.slice (some ⟨g, 0, none⟩) (m + 2) cap)) 49) ∧ w.ownsRow B 43 1 (.slice (some ⟨g, 0, none⟩) (m + 2) cap) (m + 2) (xs ++ [ptr p, ptr q]) ∧ N ≤ p ∧ w.heap[p]? = some (nodeObj kt) ∧ N ≤ q ∧ w.heap[q]? = some (nodeObj vt)

structure J47 (B N rb m : Nat) (cp : Option Addr) (cc : Nat) (xs : List Value) (kt vt : ByteArray) (w0 : World) (d : Nat → Bool) (w : World) : Prop where
  os : w.os = w0.os ∧ w.tape = w0.tape ∧ w.output = w0.output
  size : N ≤ w.heap.size
  old : ∀ b, b < N → some b ≠ (Value.slice cp m cc).ownBlock → b ≠ rb → w.heap[b]? = w0.heap[b]?
  own : d 14 = false → w.ownsRow B 43 1 (.slice cp m cc) m xs
  root : d 17 = false → w.heap[rb]? = some (.cells (nodeCells 2 ByteArray.empty (.slice cp m cc)) 49)
  fin : d 17 = true → d 14 = true ∧ d 4 = true ∧ Fin47 B N rb m xs kt vt w
  lv : ∀ q, (Value.slice cp m cc).ownBlock = some q → q < N ∧ q ≠ rb
  rbN : rb < N

section
variable {B N rb m k n4 : Nat} {cp : Option Addr} {cc : Nat} {xs : List Value} {kt vt : ByteArray} {v4 : Value} {a : Act} {w w0 : World} {Q : Exit → Act → World → Prop} {oo : Oper} {p : String} {d : Nat → Bool}

theorem J47.same (h : J47 B N rb m cp cc xs kt vt w0 d w) (i : Nat) (hi : i ≠ 14) (hi2 : i ≠ 17) : J47 B N rb m cp cc xs kt vt w0 (fun j => d j || j == i) w := by
  have e14 : ((14 : Nat) == i) = false := by rw [beq_eq_false_iff_ne]; omega
  have e17 : ((17 : Nat) == i) = false := by rw [beq_eq_false_iff_ne]; omega
  refine ⟨h.os, h.size, h.old, fun hd => h.own (by simpa [e14] using hd), fun hd => h.root (by simpa [e17] using hd), fun hd => ?_, h.lv, h.rbN⟩
  have := h.fin (by simpa [e17] using hd)
  exact ⟨by simp [this.1], by simp [this.2.1], this.2.2⟩

theorem J47.below {w' : World} (h : J47 B N rb m cp cc xs kt vt w0 d w) (i : Nat) (hi : i ≠ 14) (hi2 : i ≠ 17) (hb : Below w.heap.size w w') : J47 B N rb m cp cc xs kt vt w0 (fun j => d j || j == i) w' := by
  have h' := h.same i hi hi2
  refine ⟨⟨hb.os.trans h.os.1, hb.tape.trans h.os.2.1, hb.output.trans h.os.2.2⟩, Nat.le_trans h.size hb.size, fun b h1 h2 h3 => by rw [hb.block b (Nat.lt_of_lt_of_le h1 h.size)]; exact h.old b h1 h2 h3, fun hd => row_kept (h'.own hd) fun q o _ ho => blk_below ho hb (blk_lt ho), fun hd => blk_below (h'.root hd) hb (blk_lt (h'.root hd)), fun hd => ?_, h.lv, h.rbN⟩
  obtain ⟨h1, h2, g, cap, p, q, f1, f2, f3, f4, f5, f6⟩ := h'.fin hd
  exact ⟨h1, h2, g, cap, p, q, blk_below f1 hb (blk_lt f1), own_keep f2 fun o ho => blk_below ho hb (blk_lt ho), f3, blk_below f4 hb (blk_lt f4), f5, blk_below f6 hb (blk_lt f6)⟩
end


def Good47 (B N rb m k : Nat) (cp : Option Addr) (cc : Nat) (xs : List Value) (kt vt : ByteArray) (v4 : Value) (i : Nat) (v : Value) (w : World) : Prop :=
  match i with
  | 0 => v = Value.pointer (some ⟨rb, 0, none⟩)
  | 1 => v = Value.pointer (some ⟨rb, 0, none⟩)
  | 2 => v = Value.pointer (some ⟨rb, 0, none⟩)
  | 3 => v = Value.pointer (some ⟨rb, 6, none⟩)
  | 4 => v = Value.slice cp m cc
  | 5 => v = Value.string kt
  | 6 => v = nodeAgg kt
  | 7 => ∃ q, v = ptr q ∧ N ≤ q ∧ w.heap[q]? = some (nodeObj kt)
  | 8 => v = v4
  | 9 => v = Value.int .i64 (k : Nat)
  | 10 => v = Value.string vt
  | 11 => v = nodeAgg vt
  | 12 => ∃ q, v = ptr q ∧ N ≤ q ∧ w.heap[q]? = some (nodeObj vt)
  | 13 => ∃ b p q, v = .slice (some ⟨b, 0, none⟩) 2 2 ∧ N ≤ b ∧ w.heap[b]? = some (.cells #[ptr p, ptr q] 43) ∧ N ≤ p ∧ w.heap[p]? = some (nodeObj kt) ∧ N ≤ q ∧ w.heap[q]? = some (nodeObj vt)
  | 14 => ∃ g cap p q, v = .slice (some ⟨g, 0, none⟩) (m + 2) cap ∧ g ≠ rb ∧ w.ownsRow B 43 1 (.slice (some ⟨g, 0, none⟩) (m + 2) cap) (m + 2) (xs ++ [ptr p, ptr q]) ∧ N ≤ p ∧ w.heap[p]? = some (nodeObj kt) ∧ N ≤ q ∧ w.heap[q]? = some (nodeObj vt)
  | 15 => v = Value.pointer (some ⟨rb, 0, none⟩)
  | 16 => v = Value.pointer (some ⟨rb, 6, none⟩)
  | _ => True

theorem Good47.stable {B N rb m k : Nat} {cp : Option Addr} {cc : Nat} {xs : List Value} {kt vt : ByteArray} {v4 : Value} (i j : Nat) (v : Value) (w w' : World) (hij : i ≠ j) (h : Good47 B N rb m k cp cc xs kt vt v4 i v w) (hS : Step47 N rb j w w') : Good47 B N rb m k cp cc xs kt vt v4 i v w' := by
  have hk := hS.2.1
  by_cases h1 : i = 14
  · subst h1
    obtain ⟨g, cap, p, q, e, hg, ho, hp, hp2, hq, hq2⟩ := h
    exact ⟨g, cap, p, q, e, hg, own_keep ho fun o hh => hS.2.2 (fun e => hij e.symm) _ _ hg hh, hp, hk _ _ hp hp2, hq, hk _ _ hq hq2⟩
  · unfold Good47 at h ⊢
    split at h <;> first | exact h | (exact absurd rfl h1) | (obtain ⟨q, e, h2, h3⟩ := h; exact ⟨q, e, h2, hk _ _ h2 h3⟩) | (obtain ⟨b, p, q, e, h2, h3, h4, h5, h6, h7⟩ := h; exact ⟨b, p, q, e, h2, hk _ _ h2 h3, h4, hk _ _ h4 h5, h6, hk _ _ h6 h7⟩)

section
variable {B N rb m k n4 : Nat} {cp : Option Addr} {cc : Nat} {xs : List Value} {kt vt : ByteArray} {v4 : Value} {a : Act} {w w0 : World} {Q : Exit → Act → World → Prop} {oo : Oper} {p : String} {d : Nat → Bool}

set_option maxRecDepth 100000 in
theorem l47_0 (ho : oo = { dst := some 193, op := Op.move (Operand.tmp 31), type := 43, pos := p, after := #[], guard := none }) (hJ : J47 B N rb m cp cc xs kt vt w0 d w) (t31 : a.eval (.tmp 31) = Value.pointer (some ⟨rb, 0, none⟩)) :
    Oper.wp Yba.prog oo a w (fun a' w' => ∃ v, a' = a.put oo.dst v ∧ Good47 B N rb m k cp cc xs kt vt v4 0 v w' ∧ J47 B N rb m cp cc xs kt vt w0 (fun j => d j || j == 0) w' ∧ Step47 N rb 0 w w') Q := by
  subst ho
  simp only [Act.eval, Array.getD_eq_getD_getElem?] at t31
  exact wp_of_run (v := Value.pointer (some ⟨rb, 0, none⟩)) (w' := w) (by go_simp) ⟨_, rfl, rfl, hJ.same 0 (by decide) (by decide), Step47.refl _⟩

set_option maxRecDepth 100000 in
theorem l47_1 (ho : oo = { dst := some 194, op := Op.move (Operand.tmp 31), type := 43, pos := p, after := #[], guard := none }) (hJ : J47 B N rb m cp cc xs kt vt w0 d w) (t31 : a.eval (.tmp 31) = Value.pointer (some ⟨rb, 0, none⟩)) :
    Oper.wp Yba.prog oo a w (fun a' w' => ∃ v, a' = a.put oo.dst v ∧ Good47 B N rb m k cp cc xs kt vt v4 1 v w' ∧ J47 B N rb m cp cc xs kt vt w0 (fun j => d j || j == 1) w' ∧ Step47 N rb 1 w w') Q := by
  subst ho
  simp only [Act.eval, Array.getD_eq_getD_getElem?] at t31
  exact wp_of_run (v := Value.pointer (some ⟨rb, 0, none⟩)) (w' := w) (by go_simp) ⟨_, rfl, rfl, hJ.same 1 (by decide) (by decide), Step47.refl _⟩

set_option maxRecDepth 100000 in
theorem l47_2 (ho : oo = { dst := some 195, op := Op.nilCheck (Operand.tmp 194), type := 0, pos := p, after := #[{ on := 1, ground := Ground.data }], guard := none }) (hJ : J47 B N rb m cp cc xs kt vt w0 d w) (g1 : a.eval (.tmp 194) = Value.pointer (some ⟨rb, 0, none⟩)) :
    Oper.wp Yba.prog oo a w (fun a' w' => ∃ v, a' = a.put oo.dst v ∧ Good47 B N rb m k cp cc xs kt vt v4 2 v w' ∧ J47 B N rb m cp cc xs kt vt w0 (fun j => d j || j == 2) w' ∧ Step47 N rb 2 w w') Q := by
  subst ho
  simp only [Act.eval, Array.getD_eq_getD_getElem?] at g1
  exact wp_of_run (v := Value.pointer (some ⟨rb, 0, none⟩)) (w' := w) (by go_simp) ⟨_, rfl, rfl, hJ.same 2 (by decide) (by decide), Step47.refl _⟩

set_option maxRecDepth 100000 in
theorem l47_3 (ho : oo = { dst := some 196, op := Op.fieldAddr 49 (Operand.tmp 195) 6, type := 0, pos := p, after := #[{ on := 2, ground := Ground.data }], guard := none }) (hJ : J47 B N rb m cp cc xs kt vt w0 d w) (g2 : a.eval (.tmp 195) = Value.pointer (some ⟨rb, 0, none⟩)) :
    Oper.wp Yba.prog oo a w (fun a' w' => ∃ v, a' = a.put oo.dst v ∧ Good47 B N rb m k cp cc xs kt vt v4 3 v w' ∧ J47 B N rb m cp cc xs kt vt w0 (fun j => d j || j == 3) w' ∧ Step47 N rb 3 w w') Q := by
  subst ho
  simp only [Act.eval, Array.getD_eq_getD_getElem?] at g2
  exact wp_of_run (v := Value.pointer (some ⟨rb, 6, none⟩)) (w' := w) (by go_simp) ⟨_, rfl, rfl, hJ.same 3 (by decide) (by decide), Step47.refl _⟩

set_option maxRecDepth 100000 in
theorem l47_4 (ho : oo = { dst := some 197, op := Op.load 47 (Operand.tmp 196), type := 47, pos := p, after := #[{ on := 3, ground := Ground.data }], guard := none }) (hJ : J47 B N rb m cp cc xs kt vt w0 d w) (g3 : a.eval (.tmp 196) = Value.pointer (some ⟨rb, 6, none⟩)) (hd : d 4 = false) :
    Oper.wp Yba.prog oo a w (fun a' w' => ∃ v, a' = a.put oo.dst v ∧ Good47 B N rb m k cp cc xs kt vt v4 4 v w' ∧ J47 B N rb m cp cc xs kt vt w0 (fun j => d j || j == 4) w' ∧ Step47 N rb 4 w w') Q := by
  subst ho
  simp only [Act.eval, Array.getD_eq_getD_getElem?] at g3
  have h17 : d 17 = false := by
    cases h : d 17 with
    | false => rfl
    | true => have := (hJ.fin h).2.1; rw [hd] at this; cases this
  have hc : w.cell? ⟨rb, 6, none⟩ = some (.slice cp m cc) := by rw [cell_of_row _ _ _ _ _ _ (hJ.root h17)]; rfl
  exact wp_of_run (v := Value.slice cp m cc) (w' := w) (by go_simp) ⟨_, rfl, rfl, hJ.same 4 (by decide) (by decide), Step47.refl _⟩

set_option maxRecDepth 100000 in
theorem l47_5 (ho : oo = { dst := some 198, op := Op.move (Operand.tmp 33), type := 9, pos := p, after := #[], guard := none }) (hJ : J47 B N rb m cp cc xs kt vt w0 d w) (t33 : a.eval (.tmp 33) = Value.string kt) :
    Oper.wp Yba.prog oo a w (fun a' w' => ∃ v, a' = a.put oo.dst v ∧ Good47 B N rb m k cp cc xs kt vt v4 5 v w' ∧ J47 B N rb m cp cc xs kt vt w0 (fun j => d j || j == 5) w' ∧ Step47 N rb 5 w w') Q := by
  subst ho
  simp only [Act.eval, Array.getD_eq_getD_getElem?] at t33
  exact wp_of_run (v := Value.string kt) (w' := w) (by go_simp) ⟨_, rfl, rfl, hJ.same 5 (by decide) (by decide), Step47.refl _⟩

set_option maxRecDepth 100000 in
theorem l47_6 (ho : oo = { dst := some 199, op := Op.build 49 #[(0, Operand.const (Value.int IntKind.u32 1)), (3, Operand.tmp 198)], type := 49, pos := p, after := #[{ on := 5, ground := Ground.data }], guard := none }) (hJ : J47 B N rb m cp cc xs kt vt w0 d w) (g5 : a.eval (.tmp 198) = Value.string kt) :
    Oper.wp Yba.prog oo a w (fun a' w' => ∃ v, a' = a.put oo.dst v ∧ Good47 B N rb m k cp cc xs kt vt v4 6 v w' ∧ J47 B N rb m cp cc xs kt vt w0 (fun j => d j || j == 6) w' ∧ Step47 N rb 6 w w') Q := by
  subst ho
  simp only [Act.eval, Array.getD_eq_getD_getElem?] at g5
  exact wp_of_run (v := nodeAgg kt) (w' := w) (by go_simp; rfl) ⟨_, rfl, rfl, hJ.same 6 (by decide) (by decide), Step47.refl _⟩

set_option maxRecDepth 100000 in
theorem l47_7 (ho : oo = { dst := some 200, op := Op.box 49 (Operand.tmp 199), type := 43, pos := p, after := #[{ on := 6, ground := Ground.data }], guard := none }) (hJ : J47 B N rb m cp cc xs kt vt w0 d w) (g6 : a.eval (.tmp 199) = nodeAgg kt) :
    Oper.wp Yba.prog oo a w (fun a' w' => ∃ v, a' = a.put oo.dst v ∧ Good47 B N rb m k cp cc xs kt vt v4 7 v w' ∧ J47 B N rb m cp cc xs kt vt w0 (fun j => d j || j == 7) w' ∧ Step47 N rb 7 w w') Q := by
  subst ho
  unfold nodeAgg at g6
  simp only [Act.eval, Array.getD_eq_getD_getElem?] at g6
  have hb : Below w.heap.size w (w.alloc (nodeObj kt)) := (Below.refl _ _).alloc (Nat.le_refl _) _
  exact wp_of_run (v := ptr w.heap.size) (w' := w.alloc (nodeObj kt)) (by unfold ptr nodeObj nodeCells; go_simp; rfl) ⟨_, rfl, ⟨_, rfl, hJ.size, blk_new _ _⟩, hJ.below 7 (by decide) (by decide) hb, Step47.below hb⟩

set_option maxRecDepth 100000 in
theorem l47_8 (ho : oo = { dst := some 201, op := Op.move (Operand.tmp 4), type := 39, pos := p, after := #[], guard := none }) (hJ : J47 B N rb m cp cc xs kt vt w0 d w) (t4 : a.eval (.tmp 4) = v4) (h4 : ∃ x l c, v4 = .slice x l c) :
    Oper.wp Yba.prog oo a w (fun a' w' => ∃ v, a' = a.put oo.dst v ∧ Good47 B N rb m k cp cc xs kt vt v4 8 v w' ∧ J47 B N rb m cp cc xs kt vt w0 (fun j => d j || j == 8) w' ∧ Step47 N rb 8 w w') Q := by
  subst ho
  obtain ⟨x4, l4, c4, rfl⟩ := h4
  simp only [Act.eval, Array.getD_eq_getD_getElem?] at t4
  exact wp_of_run (v := .slice x4 l4 c4) (w' := w) (by go_simp) ⟨_, rfl, rfl, hJ.same 8 (by decide) (by decide), Step47.refl _⟩

set_option maxRecDepth 100000 in
theorem l47_9 (ho : oo = { dst := some 202, op := Op.move (Operand.tmp 32), type := 3, pos := p, after := #[], guard := none }) (hJ : J47 B N rb m cp cc xs kt vt w0 d w) (t32 : a.eval (.tmp 32) = Value.int .i64 (k : Nat)) :
    Oper.wp Yba.prog oo a w (fun a' w' => ∃ v, a' = a.put oo.dst v ∧ Good47 B N rb m k cp cc xs kt vt v4 9 v w' ∧ J47 B N rb m cp cc xs kt vt w0 (fun j => d j || j == 9) w' ∧ Step47 N rb 9 w w') Q := by
  subst ho
  simp only [Act.eval, Array.getD_eq_getD_getElem?] at t32
  exact wp_of_run (v := Value.int .i64 (k : Nat)) (w' := w) (by go_simp) ⟨_, rfl, rfl, hJ.same 9 (by decide) (by decide), Step47.refl _⟩

set_option maxRecDepth 100000 in
theorem l47_10 (ho : oo = { dst := some 203, op := Op.call { callee := Callee.value (Operand.func 15), args := #[Operand.tmp 201, Operand.tmp 202], argTypes := #[39, 3] }, type := 9, pos := p, after := #[{ on := 8, ground := Ground.data }, { on := 9, ground := Ground.data }], guard := none }) (hJ : J47 B N rb m cp cc xs kt vt w0 d w) (g8 : a.eval (.tmp 201) = v4) (g9 : a.eval (.tmp 202) = Value.int .i64 (k : Nat)) (hk : k ≤ 100000) (vs : Nat → ByteArray) (hvt : vt = valOf n4 vs k) (hs : StrsAt w v4 n4 vs) :
    Oper.wp Yba.prog oo a w (fun a' w' => ∃ v, a' = a.put oo.dst v ∧ Good47 B N rb m k cp cc xs kt vt v4 10 v w' ∧ J47 B N rb m cp cc xs kt vt w0 (fun j => d j || j == 10) w' ∧ Step47 N rb 10 w w') Q := by
  subst ho
  simp only [Act.eval, Array.getD_eq_getD_getElem?] at g8 g9
  refine wp_of_call (f := 15) (args := #[v4, .int .i64 k]) (w' := w) (by go_simp) ((val_any v4 n4 vs k hk w hs).mono fun e w' h => ?_)
  obtain ⟨rfl, rfl⟩ := h
  exact ⟨_, rfl, _, rfl, by rw [hvt]; rfl, hJ.same 10 (by decide) (by decide), Step47.refl _⟩

set_option maxRecDepth 100000 in
theorem l47_11 (ho : oo = { dst := some 204, op := Op.build 49 #[(0, Operand.const (Value.int IntKind.u32 1)), (3, Operand.tmp 203)], type := 49, pos := p, after := #[{ on := 10, ground := Ground.data }], guard := none }) (hJ : J47 B N rb m cp cc xs kt vt w0 d w) (g10 : a.eval (.tmp 203) = Value.string vt) :
    Oper.wp Yba.prog oo a w (fun a' w' => ∃ v, a' = a.put oo.dst v ∧ Good47 B N rb m k cp cc xs kt vt v4 11 v w' ∧ J47 B N rb m cp cc xs kt vt w0 (fun j => d j || j == 11) w' ∧ Step47 N rb 11 w w') Q := by
  subst ho
  simp only [Act.eval, Array.getD_eq_getD_getElem?] at g10
  exact wp_of_run (v := nodeAgg vt) (w' := w) (by go_simp; rfl) ⟨_, rfl, rfl, hJ.same 11 (by decide) (by decide), Step47.refl _⟩

set_option maxRecDepth 100000 in
theorem l47_12 (ho : oo = { dst := some 205, op := Op.box 49 (Operand.tmp 204), type := 43, pos := p, after := #[{ on := 11, ground := Ground.data }], guard := none }) (hJ : J47 B N rb m cp cc xs kt vt w0 d w) (g11 : a.eval (.tmp 204) = nodeAgg vt) :
    Oper.wp Yba.prog oo a w (fun a' w' => ∃ v, a' = a.put oo.dst v ∧ Good47 B N rb m k cp cc xs kt vt v4 12 v w' ∧ J47 B N rb m cp cc xs kt vt w0 (fun j => d j || j == 12) w' ∧ Step47 N rb 12 w w') Q := by
  subst ho
  unfold nodeAgg at g11
  simp only [Act.eval, Array.getD_eq_getD_getElem?] at g11
  have hb : Below w.heap.size w (w.alloc (nodeObj vt)) := (Below.refl _ _).alloc (Nat.le_refl _) _
  exact wp_of_run (v := ptr w.heap.size) (w' := w.alloc (nodeObj vt)) (by unfold ptr nodeObj nodeCells; go_simp; rfl) ⟨_, rfl, ⟨_, rfl, hJ.size, blk_new _ _⟩, hJ.below 12 (by decide) (by decide) hb, Step47.below hb⟩

set_option maxRecDepth 100000 in
theorem l47_13 (ho : oo = { dst := some 206, op := Op.buildSlice 47 2 #[(0, Operand.tmp 200), (1, Operand.tmp 205)], type := 47, pos := p, after := #[{ on := 7, ground := Ground.data }, { on := 12, ground := Ground.data }], guard := none }) (hJ : J47 B N rb m cp cc xs kt vt w0 d w) (g7 : ∃ q, a.eval (.tmp 200) = ptr q ∧ N ≤ q ∧ w.heap[q]? = some (nodeObj kt)) (g12 : ∃ q, a.eval (.tmp 205) = ptr q ∧ N ≤ q ∧ w.heap[q]? = some (nodeObj vt)) :
    Oper.wp Yba.prog oo a w (fun a' w' => ∃ v, a' = a.put oo.dst v ∧ Good47 B N rb m k cp cc xs kt vt v4 13 v w' ∧ J47 B N rb m cp cc xs kt vt w0 (fun j => d j || j == 13) w' ∧ Step47 N rb 13 w w') Q := by
  subst ho
  obtain ⟨p1, e1, h1, h2⟩ := g7
  obtain ⟨q1, e2, h3, h4⟩ := g12
  unfold ptr at e1 e2
  simp only [Act.eval, Array.getD_eq_getD_getElem?] at e1 e2
  have hb : Below w.heap.size w (w.alloc (.cells #[ptr p1, ptr q1] 43)) := (Below.refl _ _).alloc (Nat.le_refl _) _
  exact wp_of_run (v := .slice (some ⟨w.heap.size, 0, none⟩) 2 2) (w' := w.alloc (.cells #[ptr p1, ptr q1] 43)) (by unfold ptr; go_simp) ⟨_, rfl, ⟨w.heap.size, p1, q1, rfl, hJ.size, blk_new _ _, h1, blk_alloc h2 _, h3, blk_alloc h4 _⟩, hJ.below 13 (by decide) (by decide) hb, Step47.below hb⟩

set_option maxRecDepth 100000 in
theorem l47_14 (ho : oo = { dst := some 207, op := Op.call { callee := Callee.builtin Builtin.append, args := #[Operand.tmp 197, Operand.tmp 206], argTypes := #[47, 47] }, type := 47, pos := p, after := #[{ on := 4, ground := Ground.data }, { on := 13, ground := Ground.data }, { on := 10, ground := Ground.chain }], guard := none }) (hJ : J47 B N rb m cp cc xs kt vt w0 d w) (g4 : a.eval (.tmp 197) = Value.slice cp m cc) (g13 : ∃ b p q, a.eval (.tmp 206) = .slice (some ⟨b, 0, none⟩) 2 2 ∧ N ≤ b ∧ w.heap[b]? = some (.cells #[ptr p, ptr q] 43) ∧ N ≤ p ∧ w.heap[p]? = some (nodeObj kt) ∧ N ≤ q ∧ w.heap[q]? = some (nodeObj vt)) (hd : d 14 = false) (hm : m ≤ 50000) (hB : B ≤ N) :
    Oper.wp Yba.prog oo a w (fun a' w' => ∃ v, a' = a.put oo.dst v ∧ Good47 B N rb m k cp cc xs kt vt v4 14 v w' ∧ J47 B N rb m cp cc xs kt vt w0 (fun j => d j || j == 14) w' ∧ Step47 N rb 14 w w') Q := by
  subst ho
  obtain ⟨b1, p1, q1, e1, hb1, hb2, h1, h2, h3, h4⟩ := g13
  have h17 : d 17 = false := by
    cases h : d 17 with
    | false => rfl
    | true => have := (hJ.fin h).1; rw [hd] at this; cases this
  have hroot := hJ.root h17
  have hown := hJ.own hd
  obtain ⟨i0, hi, hz0, hz1, hz2⟩ := info_parts Yba.info43
  refine wp_append_own w (.tmp 197) (.tmp 206) 47 rfl B 43 i0 _ 1 8 Yba.underlying47 hi hz0 hz1 hz2 rfl (by omega) _ m xs g4 hown ⟨b1, 0, none⟩ 2 2 [ptr p1, ptr q1] e1 (by simp) ?_ (by simp [ptr]; exact ⟨rfl, rfl⟩) (by unfold maxLen; omega) (by omega) (Nat.le_trans hB hJ.size) ?_
  · intro j u' hj
    rw [Go.WideShapes.add_plain, Nat.zero_add, cell_of_row w b1 j _ 43 _ hb2]
    match j, hj with
    | 0, hj => simpa [ptr] using hj
    | 1, hj => simpa [ptr] using hj
    | j + 2, hj => simp at hj
  · intro v' w' h5 h6 _
    obtain ⟨g, cap, rfl⟩ := Joins.ownsRow_form h5 (by omega)
    have hlv := hJ.lv
    have hk : ∀ b o, N ≤ b → w.heap[b]? = some o → w'.heap[b]? = some o := fun b o hb ho => blk_grown ho h6 (fun e => by have := (hlv b e.symm).1; omega)
    have hr := blk_grown hroot h6 (fun e => (hlv rb e.symm).2 rfl)
    have hg : g ≠ rb := by
      obtain ⟨cur, hc, _⟩ := own_blk h5
      exact ne_of_type hc hr (by decide)
    refine ⟨_, rfl, ⟨g, cap, p1, q1, rfl, hg, h5, h1, hk _ _ h1 h2, h3, hk _ _ h3 h4⟩, ⟨⟨h6.os.trans hJ.os.1, h6.tape.trans hJ.os.2.1, h6.output.trans hJ.os.2.2⟩, Nat.le_trans hJ.size h6.size, fun b hb h7 h8 => by rw [h6.block b (Nat.lt_of_lt_of_le hb hJ.size) h7]; exact hJ.old b hb h7 h8, fun hd' => by simp at hd', fun _ => hr, fun hd' => ?_, hlv, hJ.rbN⟩, ⟨h6.size, hk, fun h => absurd rfl h⟩⟩
    simp [h17] at hd'

set_option maxRecDepth 100000 in
theorem l47_15 (ho : oo = { dst := some 208, op := Op.nilCheck (Operand.tmp 193), type := 0, pos := p, after := #[{ on := 0, ground := Ground.data }, { on := 0, ground := Ground.phase }, { on := 1, ground := Ground.phase }, { on := 2, ground := Ground.phase }, { on := 3, ground := Ground.phase }, { on := 4, ground := Ground.phase }, { on := 5, ground := Ground.phase }, { on := 6, ground := Ground.phase }, { on := 7, ground := Ground.phase }, { on := 8, ground := Ground.phase }, { on := 9, ground := Ground.phase }, { on := 10, ground := Ground.phase }, { on := 11, ground := Ground.phase }, { on := 12, ground := Ground.phase }, { on := 13, ground := Ground.phase }, { on := 14, ground := Ground.phase }], guard := none }) (hJ : J47 B N rb m cp cc xs kt vt w0 d w) (g0 : a.eval (.tmp 193) = Value.pointer (some ⟨rb, 0, none⟩)) :
    Oper.wp Yba.prog oo a w (fun a' w' => ∃ v, a' = a.put oo.dst v ∧ Good47 B N rb m k cp cc xs kt vt v4 15 v w' ∧ J47 B N rb m cp cc xs kt vt w0 (fun j => d j || j == 15) w' ∧ Step47 N rb 15 w w') Q := by
  subst ho
  simp only [Act.eval, Array.getD_eq_getD_getElem?] at g0
  exact wp_of_run (v := Value.pointer (some ⟨rb, 0, none⟩)) (w' := w) (by go_simp) ⟨_, rfl, rfl, hJ.same 15 (by decide) (by decide), Step47.refl _⟩

set_option maxRecDepth 100000 in
theorem l47_16 (ho : oo = { dst := some 209, op := Op.fieldAddr 49 (Operand.tmp 208) 6, type := 0, pos := p, after := #[{ on := 15, ground := Ground.data }, { on := 0, ground := Ground.phase }, { on := 1, ground := Ground.phase }, { on := 2, ground := Ground.phase }, { on := 3, ground := Ground.phase }, { on := 4, ground := Ground.phase }, { on := 5, ground := Ground.phase }, { on := 6, ground := Ground.phase }, { on := 7, ground := Ground.phase }, { on := 8, ground := Ground.phase }, { on := 9, ground := Ground.phase }, { on := 10, ground := Ground.phase }, { on := 11, ground := Ground.phase }, { on := 12, ground := Ground.phase }, { on := 13, ground := Ground.phase }, { on := 14, ground := Ground.phase }], guard := none }) (hJ : J47 B N rb m cp cc xs kt vt w0 d w) (g15 : a.eval (.tmp 208) = Value.pointer (some ⟨rb, 0, none⟩)) :
    Oper.wp Yba.prog oo a w (fun a' w' => ∃ v, a' = a.put oo.dst v ∧ Good47 B N rb m k cp cc xs kt vt v4 16 v w' ∧ J47 B N rb m cp cc xs kt vt w0 (fun j => d j || j == 16) w' ∧ Step47 N rb 16 w w') Q := by
  subst ho
  simp only [Act.eval, Array.getD_eq_getD_getElem?] at g15
  exact wp_of_run (v := Value.pointer (some ⟨rb, 6, none⟩)) (w' := w) (by go_simp) ⟨_, rfl, rfl, hJ.same 16 (by decide) (by decide), Step47.refl _⟩

set_option maxRecDepth 100000 in
theorem l47_17 (ho : oo = { dst := none, op := Op.store 47 (Operand.tmp 209) (Operand.tmp 207), type := 0, pos := p, after := #[{ on := 16, ground := Ground.data }, { on := 14, ground := Ground.data }, { on := 14, ground := Ground.chain }, { on := 0, ground := Ground.phase }, { on := 1, ground := Ground.phase }, { on := 2, ground := Ground.phase }, { on := 3, ground := Ground.phase }, { on := 4, ground := Ground.phase }, { on := 5, ground := Ground.phase }, { on := 6, ground := Ground.phase }, { on := 7, ground := Ground.phase }, { on := 8, ground := Ground.phase }, { on := 9, ground := Ground.phase }, { on := 10, ground := Ground.phase }, { on := 11, ground := Ground.phase }, { on := 12, ground := Ground.phase }, { on := 13, ground := Ground.phase }, { on := 14, ground := Ground.phase }], guard := none }) (hJ : J47 B N rb m cp cc xs kt vt w0 d w) (g16 : a.eval (.tmp 209) = Value.pointer (some ⟨rb, 6, none⟩)) (g14 : ∃ g cap p q, a.eval (.tmp 207) = .slice (some ⟨g, 0, none⟩) (m + 2) cap ∧ g ≠ rb ∧ w.ownsRow B 43 1 (.slice (some ⟨g, 0, none⟩) (m + 2) cap) (m + 2) (xs ++ [ptr p, ptr q]) ∧ N ≤ p ∧ w.heap[p]? = some (nodeObj kt) ∧ N ≤ q ∧ w.heap[q]? = some (nodeObj vt)) (hd : d 17 = false) (hd14 : d 14 = true) (hd4 : d 4 = true) :
    Oper.wp Yba.prog oo a w (fun a' w' => ∃ v, a' = a.put oo.dst v ∧ Good47 B N rb m k cp cc xs kt vt v4 17 v w' ∧ J47 B N rb m cp cc xs kt vt w0 (fun j => d j || j == 17) w' ∧ Step47 N rb 17 w w') Q := by
  subst ho
  obtain ⟨g, cap, p1, q1, e1, hg, h5, h1, h2, h3, h4⟩ := g14
  simp only [Act.eval, Array.getD_eq_getD_getElem?] at g16 e1
  have hroot := hJ.root hd
  have hc : w.cell? ⟨rb, 6, none⟩ = some (.slice cp m cc) := by rw [cell_of_row _ _ _ _ _ _ hroot]; rfl
  have hf : w.frozen? ⟨rb, 6, none⟩ = false := frozen_of_row w rb 6 _ 49 hroot
  have hrN := hJ.rbN
  have hk : ∀ b o, b ≠ rb → w.heap[b]? = some o → (w.setCell ⟨rb, 6, none⟩ (.slice (some ⟨g, 0, none⟩) (m + 2) cap)).heap[b]? = some o := fun b o h ho => blk_set ho h _
  refine wp_of_skip (w' := w.setCell ⟨rb, 6, none⟩ (.slice (some ⟨g, 0, none⟩) (m + 2) cap)) (by go_simp) ⟨undef, rfl, trivial, ⟨hJ.os, by simpa using hJ.size, fun b hb h7 h8 => by rw [Below.heap_setCell _ _ _ _ h8]; exact hJ.old b hb h7 h8, fun hd' => by simp [hd14] at hd', fun hd' => by simp at hd', fun _ => ⟨by simp [hd14], by simp [hd4], g, cap, p1, q1, blk_same hroot 6 _, own_keep h5 fun o ho => hk _ _ hg ho, h1, hk _ _ (by omega) h2, h3, hk _ _ (by omega) h4⟩, hJ.lv, hrN⟩, ⟨by simp, fun b o hb ho => hk b o (by omega) ho, fun _ b o h ho => hk b o h ho⟩⟩

end

end Go.Proofs.Ybulkexpby
