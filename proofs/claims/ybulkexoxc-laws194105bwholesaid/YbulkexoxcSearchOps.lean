/- newSearch (function 5): the operations of its great region, one by one. -/
import Derived.Test.YbulkexoxcLayout
import Derived.Test.YbulkexoxcRegion
namespace Go.Proofs.Ybulkexoxc
open Go.RowKit Go.PK Go.RegInv
set_option linter.unusedVariables false

/-- v is a slice of n copies of z in a row of its own from B on. -/
def RowAt (B n : Nat) (z : Value) (e : TypeId) (v : Value) (w : World) : Prop :=
  ∃ b, v = .slice (some ⟨b, 0, none⟩) n n ∧ B ≤ b ∧ w.heap[b]? = some (.cells (rep n z) e)

theorem RowAt.keep {B n : Nat} {z : Value} {e : TypeId} {v : Value} {w w' : World} (h : RowAt B n z e v w) (hb : Below w.heap.size w w') : RowAt B n z e v w' := by
  obtain ⟨b, h1, h2, h3⟩ := h
  exact ⟨b, h1, h2, blk_below h3 hb (blk_lt h3)⟩

def srch (mb n wd : Nat) (L0 L2 s1 s2 s3 s4 s5 s6 : Value) : Array Value :=
  #[.pointer (some ⟨mb, 0, none⟩), L0, .int .i64 (wd : Nat), L2, .slice none 0 0, .int .i64 1, .int .u64 16, .int .i64 0, .slice none 0 0, .int .i64 (wd : Nat), .int .u64 (colShift wd), .int .i64 0, s1, s2, s3, .int .i64 (64 * (n : Nat)), s4, s5, s6, .int .i64 0]

def SrchRows (B n wd : Nat) (s1 s2 s3 s4 s5 s6 : Value) (w : World) : Prop :=
  RowAt B wd (.int .u64 0) 53 s1 w ∧ RowAt B n (.int .i64 0) 3 s2 w ∧ RowAt B 16 (.int .i32 0) 21 s3 w ∧ RowAt B n (.slice none 0 0) 29 s4 w ∧ (∃ b : Nat, s5 = .slice (some ⟨b, 0, none⟩) 0 0) ∧ ∃ b : Nat, s6 = .slice (some ⟨b, 0, none⟩) 0 0

def SrchV (B mb n wd : Nat) (L0 L2 v : Value) (w : World) : Prop :=
  ∃ s1 s2 s3 s4 s5 s6, v = .agg (srch mb n wd L0 L2 s1 s2 s3 s4 s5 s6) ∧ SrchRows B n wd s1 s2 s3 s4 s5 s6 w

def SrchP (B mb n wd : Nat) (L0 L2 v : Value) (w : World) : Prop :=
  ∃ b s1 s2 s3 s4 s5 s6, v = .pointer (some ⟨b, 0, none⟩) ∧ B ≤ b ∧ w.heap[b]? = some (.cells (srch mb n wd L0 L2 s1 s2 s3 s4 s5 s6) 52) ∧ SrchRows B n wd s1 s2 s3 s4 s5 s6 w

theorem SrchRows.keep {B n wd : Nat} {s1 s2 s3 s4 s5 s6 : Value} {w w' : World} (h : SrchRows B n wd s1 s2 s3 s4 s5 s6 w) (hb : Below w.heap.size w w') : SrchRows B n wd s1 s2 s3 s4 s5 s6 w' :=
  ⟨h.1.keep hb, h.2.1.keep hb, h.2.2.1.keep hb, h.2.2.2.1.keep hb, h.2.2.2.2⟩
theorem SrchV.keep {B mb n wd : Nat} {L0 L2 v : Value} {w w' : World} (h : SrchV B mb n wd L0 L2 v w) (hb : Below w.heap.size w w') : SrchV B mb n wd L0 L2 v w' := by
  obtain ⟨s1, s2, s3, s4, s5, s6, h1, h2⟩ := h
  exact ⟨s1, s2, s3, s4, s5, s6, h1, h2.keep hb⟩
theorem SrchP.keep {B mb n wd : Nat} {L0 L2 v : Value} {w w' : World} (h : SrchP B mb n wd L0 L2 v w) (hb : Below w.heap.size w w') : SrchP B mb n wd L0 L2 v w' := by
  obtain ⟨b, s1, s2, s3, s4, s5, s6, h1, h2, h3, h4⟩ := h
  exact ⟨b, s1, s2, s3, s4, s5, s6, h1, h2, blk_below h3 hb (blk_lt h3), h4.keep hb⟩

def Good5 (B mb eb lb n wd : Nat) (L0 L2 : Value) (i : Nat) (v : Value) (w : World) : Prop :=
  match i with
  | 0 => v = Value.pointer (some ⟨mb, 0, none⟩)
  | 1 => v = Value.agg #[L0, .int .i64 (wd : Nat), L2]
  | 2 => v = Value.agg #[.slice none 0 0, .int .i64 1, .int .u64 16, .int .i64 0]
  | 3 => v = Value.pointer (some ⟨lb, 1, none⟩)
  | 4 => v = Value.int .i64 (wd : Nat)
  | 5 => v = Value.agg #[.slice none 0 0, .int .i64 (wd : Nat), .int .u64 (colShift wd), .int .i64 0]
  | 6 => v = Value.pointer (some ⟨lb, 1, none⟩)
  | 7 => v = Value.int .i64 (wd : Nat)
  | 8 => RowAt B wd (.int .u64 0) 53 v w
  | 9 => v = Value.pointer (some ⟨mb, 0, none⟩)
  | 10 => v = Value.pointer (some ⟨mb, 0, none⟩)
  | 11 => v = Value.pointer (some ⟨mb, 0, none⟩)
  | 12 => v = Value.slice (some ⟨eb, 0, none⟩) n n
  | 13 => v = Value.int .i64 (n : Nat)
  | 14 => RowAt B n (.int .i64 0) 3 v w
  | 15 => RowAt B 16 (.int .i32 0) 21 v w
  | 16 => v = Value.pointer (some ⟨mb, 0, none⟩)
  | 17 => v = Value.pointer (some ⟨mb, 0, none⟩)
  | 18 => v = Value.pointer (some ⟨mb, 3, none⟩)
  | 19 => v = Value.slice none 0 0
  | 20 => v = Value.pointer (some ⟨mb, 0, none⟩)
  | 21 => v = Value.pointer (some ⟨mb, 0, none⟩)
  | 22 => v = Value.pointer (some ⟨mb, 0, none⟩)
  | 23 => v = Value.slice (some ⟨eb, 0, none⟩) n n
  | 24 => v = Value.int .i64 (n : Nat)
  | 25 => RowAt B n (.slice none 0 0) 29 v w
  | 26 => v = Value.pointer (some ⟨mb, 0, none⟩)
  | 27 => v = Value.pointer (some ⟨mb, 0, none⟩)
  | 28 => v = Value.pointer (some ⟨mb, 3, none⟩)
  | 29 => v = Value.slice none 0 0
  | 30 => v = Value.int .i64 0
  | 31 => ∃ b : Nat, v = .slice (some ⟨b, 0, none⟩) 0 0
  | 32 => v = Value.pointer (some ⟨mb, 0, none⟩)
  | 33 => v = Value.pointer (some ⟨mb, 0, none⟩)
  | 34 => v = Value.pointer (some ⟨mb, 3, none⟩)
  | 35 => v = Value.slice none 0 0
  | 36 => v = Value.int .i64 0
  | 37 => ∃ b : Nat, v = .slice (some ⟨b, 0, none⟩) 0 0
  | 38 => v = Value.pointer (some ⟨mb, 0, none⟩)
  | 39 => v = Value.pointer (some ⟨mb, 0, none⟩)
  | 40 => v = Value.pointer (some ⟨mb, 0, none⟩)
  | 41 => v = Value.slice (some ⟨eb, 0, none⟩) n n
  | 42 => v = Value.int .i64 (n : Nat)
  | 43 => v = Value.int .i64 (64 * (n : Nat))
  | 44 => SrchV B mb n wd L0 L2 v w
  | 45 => SrchP B mb n wd L0 L2 v w
  | 46 => SrchP B mb n wd L0 L2 v w
  | _ => True

theorem Yba.info165 : (Yba.prog.info? 165).map (fun i => (i.zero, i.size, i.bytes)) = some (some (.agg #[.pointer none, .pointer none, .slice none 0 0, .slice none 0 0, .slice none 0 0, .slice none 0 0, .slice none 0 0, .slice none 0 0, .slice none 0 0]), 9, 184) := by kernel_rfl
theorem Good5.stable (B mb eb lb n wd : Nat) (L0 L2 : Value) (i : Nat) (v : Value) (w w' : World) (h : Good5 B mb eb lb n wd L0 L2 i v w) (hb : Below w.heap.size w w') : Good5 B mb eb lb n wd L0 L2 i v w' := by
  unfold Good5 at h ⊢
  split at h <;> first | exact h | exact RowAt.keep h hb | exact SrchV.keep h hb | exact SrchP.keep h hb

section
variable {B mb eb lb n wd : Nat} {L0 L2 : Value} {a : Act} {w W0 : World} {Q : Exit → Act → World → Prop}
set_option maxRecDepth 100000 in
theorem s5_0 {o : Oper} {p : String} (ho : o = { dst := some 7, op := Op.move (Operand.tmp 0), type := 28, pos := p, after := #[], guard := none }) (hJ : Below W0.heap.size W0 w) (t0 : a.eval (.tmp 0) = Value.pointer (some ⟨mb, 0, none⟩)) :
    Oper.wp Yba.prog o a w (fun a' w' => ∃ v, a' = a.put o.dst v ∧ Good5 B mb eb lb n wd L0 L2 0 v w' ∧ Below W0.heap.size W0 w' ∧ Below w.heap.size w w') Q := by
  subst ho
  simp only [Act.eval, Array.getD_eq_getD_getElem?] at t0
  exact wp_of_run (v := Value.pointer (some ⟨mb, 0, none⟩)) (w' := w) (by go_simp) ⟨_, rfl, rfl, hJ, Below.refl _ _⟩

set_option maxRecDepth 100000 in
theorem s5_1 {o : Oper} {p : String} (ho : o = { dst := some 8, op := Op.load 39 (Operand.tmp 3), type := 39, pos := p, after := #[], guard := none }) (hJ : Below W0.heap.size W0 w) (t3 : a.eval (.tmp 3) = Value.pointer (some ⟨lb, 0, none⟩)) (hl0 : w.cell? ⟨lb, 0, none⟩ = some L0) (hl1 : w.cell? ⟨lb, 1, none⟩ = some (.int .i64 (wd : Int))) (hl2 : w.cell? ⟨lb, 2, none⟩ = some L2) :
    Oper.wp Yba.prog o a w (fun a' w' => ∃ v, a' = a.put o.dst v ∧ Good5 B mb eb lb n wd L0 L2 1 v w' ∧ Below W0.heap.size W0 w' ∧ Below w.heap.size w w') Q := by
  subst ho
  simp only [Act.eval, Array.getD_eq_getD_getElem?] at t3
  exact wp_of_run (v := Value.agg #[L0, .int .i64 (wd : Nat), L2]) (w' := w) (by go_simp) ⟨_, rfl, rfl, hJ, Below.refl _ _⟩

set_option maxRecDepth 100000 in
theorem s5_2 {o : Oper} {p : String} (ho : o = { dst := some 9, op := Op.call { callee := Callee.value (Operand.func 10), args := #[Operand.const (Value.int IntKind.i64 1)], argTypes := #[3] }, type := 43, pos := p, after := #[], guard := none }) (hJ : Below W0.heap.size W0 w)  :
    Oper.wp Yba.prog o a w (fun a' w' => ∃ v, a' = a.put o.dst v ∧ Good5 B mb eb lb n wd L0 L2 2 v w' ∧ Below W0.heap.size W0 w' ∧ Below w.heap.size w w') Q := by
  subst ho
  refine wp_of_call (f := 10) (args := #[.int .i64 ((1 : Nat) : Int)]) (w' := w) (by go_simp) ((col_node 1 w (by omega) (by omega)).mono fun e w' h => ?_)
  obtain ⟨rfl, hb⟩ := h
  exact ⟨_, rfl, _, rfl, rfl, hJ.trans (hb.mono hJ.size), hb⟩

set_option maxRecDepth 100000 in
theorem s5_3 {o : Oper} {p : String} (ho : o = { dst := some 10, op := Op.fieldAddr 39 (Operand.tmp 3) 1, type := 0, pos := p, after := #[], guard := none }) (hJ : Below W0.heap.size W0 w) (t3 : a.eval (.tmp 3) = Value.pointer (some ⟨lb, 0, none⟩)) :
    Oper.wp Yba.prog o a w (fun a' w' => ∃ v, a' = a.put o.dst v ∧ Good5 B mb eb lb n wd L0 L2 3 v w' ∧ Below W0.heap.size W0 w' ∧ Below w.heap.size w w') Q := by
  subst ho
  simp only [Act.eval, Array.getD_eq_getD_getElem?] at t3
  exact wp_of_run (v := Value.pointer (some ⟨lb, 1, none⟩)) (w' := w) (by go_simp) ⟨_, rfl, rfl, hJ, Below.refl _ _⟩

set_option maxRecDepth 100000 in
theorem s5_4 {o : Oper} {p : String} (ho : o = { dst := some 11, op := Op.load 3 (Operand.tmp 10), type := 3, pos := p, after := #[{ on := 3, ground := Ground.data }], guard := none }) (hJ : Below W0.heap.size W0 w) (g3 : a.eval (.tmp 10) = Value.pointer (some ⟨lb, 1, none⟩)) (hl1 : w.cell? ⟨lb, 1, none⟩ = some (.int .i64 (wd : Int))) :
    Oper.wp Yba.prog o a w (fun a' w' => ∃ v, a' = a.put o.dst v ∧ Good5 B mb eb lb n wd L0 L2 4 v w' ∧ Below W0.heap.size W0 w' ∧ Below w.heap.size w w') Q := by
  subst ho
  simp only [Act.eval, Array.getD_eq_getD_getElem?] at g3
  exact wp_of_run (v := Value.int .i64 (wd : Nat)) (w' := w) (by go_simp) ⟨_, rfl, rfl, hJ, Below.refl _ _⟩

set_option maxRecDepth 100000 in
theorem s5_5 {o : Oper} {p : String} (ho : o = { dst := some 12, op := Op.call { callee := Callee.value (Operand.func 11), args := #[Operand.tmp 11], argTypes := #[3] }, type := 46, pos := p, after := #[{ on := 4, ground := Ground.data }, { on := 2, ground := Ground.chain }], guard := none }) (hJ : Below W0.heap.size W0 w) (g4 : a.eval (.tmp 11) = Value.int .i64 (wd : Nat)) (h0 : 1 ≤ wd) (hw : wd ≤ 65537) :
    Oper.wp Yba.prog o a w (fun a' w' => ∃ v, a' = a.put o.dst v ∧ Good5 B mb eb lb n wd L0 L2 5 v w' ∧ Below W0.heap.size W0 w' ∧ Below w.heap.size w w') Q := by
  subst ho
  simp only [Act.eval, Array.getD_eq_getD_getElem?] at g4
  refine wp_of_call (f := 11) (args := #[.int .i64 ((wd : Nat) : Int)]) (w' := w) (by go_simp) ((col_u64 wd w (by omega) (by omega)).mono fun e w' h => ?_)
  obtain ⟨rfl, hb⟩ := h
  exact ⟨_, rfl, _, rfl, rfl, hJ.trans (hb.mono hJ.size), hb⟩

set_option maxRecDepth 100000 in
theorem s5_6 {o : Oper} {p : String} (ho : o = { dst := some 13, op := Op.fieldAddr 39 (Operand.tmp 3) 1, type := 0, pos := p, after := #[], guard := none }) (hJ : Below W0.heap.size W0 w) (t3 : a.eval (.tmp 3) = Value.pointer (some ⟨lb, 0, none⟩)) :
    Oper.wp Yba.prog o a w (fun a' w' => ∃ v, a' = a.put o.dst v ∧ Good5 B mb eb lb n wd L0 L2 6 v w' ∧ Below W0.heap.size W0 w' ∧ Below w.heap.size w w') Q := by
  subst ho
  simp only [Act.eval, Array.getD_eq_getD_getElem?] at t3
  exact wp_of_run (v := Value.pointer (some ⟨lb, 1, none⟩)) (w' := w) (by go_simp) ⟨_, rfl, rfl, hJ, Below.refl _ _⟩

set_option maxRecDepth 100000 in
theorem s5_7 {o : Oper} {p : String} (ho : o = { dst := some 14, op := Op.load 3 (Operand.tmp 13), type := 3, pos := p, after := #[{ on := 6, ground := Ground.data }], guard := none }) (hJ : Below W0.heap.size W0 w) (g6 : a.eval (.tmp 13) = Value.pointer (some ⟨lb, 1, none⟩)) (hl1 : w.cell? ⟨lb, 1, none⟩ = some (.int .i64 (wd : Int))) :
    Oper.wp Yba.prog o a w (fun a' w' => ∃ v, a' = a.put o.dst v ∧ Good5 B mb eb lb n wd L0 L2 7 v w' ∧ Below W0.heap.size W0 w' ∧ Below w.heap.size w w') Q := by
  subst ho
  simp only [Act.eval, Array.getD_eq_getD_getElem?] at g6
  exact wp_of_run (v := Value.int .i64 (wd : Nat)) (w' := w) (by go_simp) ⟨_, rfl, rfl, hJ, Below.refl _ _⟩

set_option maxRecDepth 100000 in
theorem s5_8 {o : Oper} {p : String} (ho : o = { dst := some 15, op := Op.makeSlice 47 (Operand.tmp 14) (Operand.tmp 14), type := 47, pos := p, after := #[{ on := 7, ground := Ground.data }, { on := 7, ground := Ground.data }], guard := none }) (hJ : Below W0.heap.size W0 w) (g7 : a.eval (.tmp 14) = Value.int .i64 (wd : Nat)) (hB : B ≤ W0.heap.size) (hn : n ≤ 65536) (hw : wd ≤ 65537) :
    Oper.wp Yba.prog o a w (fun a' w' => ∃ v, a' = a.put o.dst v ∧ Good5 B mb eb lb n wd L0 L2 8 v w' ∧ Below W0.heap.size W0 w' ∧ Below w.heap.size w w') Q := by
  subst ho
  simp only [Act.eval, Array.getD_eq_getD_getElem?] at g7
  have hmk := make_one (P := Yba.prog) (t := 47) (e := 53) Yba.underlying47 Yba.info53 rfl wd (by omega) (by omega) w
  exact wp_of_run (v := .slice (some ⟨w.heap.size, 0, none⟩) wd wd) (w' := w.alloc (.cells (rep wd (.int .u64 0)) 53)) (by go_simp) ⟨_, rfl, ⟨w.heap.size, rfl, Nat.le_trans hB hJ.size, blk_new _ _⟩, hJ.alloc hJ.size _, (Below.refl _ _).alloc (Nat.le_refl _) _⟩

set_option maxRecDepth 100000 in
theorem s5_9 {o : Oper} {p : String} (ho : o = { dst := some 16, op := Op.move (Operand.tmp 0), type := 28, pos := p, after := #[], guard := none }) (hJ : Below W0.heap.size W0 w) (t0 : a.eval (.tmp 0) = Value.pointer (some ⟨mb, 0, none⟩)) :
    Oper.wp Yba.prog o a w (fun a' w' => ∃ v, a' = a.put o.dst v ∧ Good5 B mb eb lb n wd L0 L2 9 v w' ∧ Below W0.heap.size W0 w' ∧ Below w.heap.size w w') Q := by
  subst ho
  simp only [Act.eval, Array.getD_eq_getD_getElem?] at t0
  exact wp_of_run (v := Value.pointer (some ⟨mb, 0, none⟩)) (w' := w) (by go_simp) ⟨_, rfl, rfl, hJ, Below.refl _ _⟩

set_option maxRecDepth 100000 in
theorem s5_10 {o : Oper} {p : String} (ho : o = { dst := some 17, op := Op.nilCheck (Operand.tmp 16), type := 0, pos := p, after := #[{ on := 9, ground := Ground.data }], guard := none }) (hJ : Below W0.heap.size W0 w) (g9 : a.eval (.tmp 16) = Value.pointer (some ⟨mb, 0, none⟩)) :
    Oper.wp Yba.prog o a w (fun a' w' => ∃ v, a' = a.put o.dst v ∧ Good5 B mb eb lb n wd L0 L2 10 v w' ∧ Below W0.heap.size W0 w' ∧ Below w.heap.size w w') Q := by
  subst ho
  simp only [Act.eval, Array.getD_eq_getD_getElem?] at g9
  exact wp_of_run (v := Value.pointer (some ⟨mb, 0, none⟩)) (w' := w) (by go_simp) ⟨_, rfl, rfl, hJ, Below.refl _ _⟩

set_option maxRecDepth 100000 in
theorem s5_11 {o : Oper} {p : String} (ho : o = { dst := some 18, op := Op.fieldAddr 34 (Operand.tmp 17) 0, type := 0, pos := p, after := #[{ on := 10, ground := Ground.data }], guard := none }) (hJ : Below W0.heap.size W0 w) (g10 : a.eval (.tmp 17) = Value.pointer (some ⟨mb, 0, none⟩)) :
    Oper.wp Yba.prog o a w (fun a' w' => ∃ v, a' = a.put o.dst v ∧ Good5 B mb eb lb n wd L0 L2 11 v w' ∧ Below W0.heap.size W0 w' ∧ Below w.heap.size w w') Q := by
  subst ho
  simp only [Act.eval, Array.getD_eq_getD_getElem?] at g10
  exact wp_of_run (v := Value.pointer (some ⟨mb, 0, none⟩)) (w' := w) (by go_simp) ⟨_, rfl, rfl, hJ, Below.refl _ _⟩

set_option maxRecDepth 100000 in
theorem s5_12 {o : Oper} {p : String} (ho : o = { dst := some 19, op := Op.load 23 (Operand.tmp 18), type := 23, pos := p, after := #[{ on := 11, ground := Ground.data }], guard := none }) (hJ : Below W0.heap.size W0 w) (g11 : a.eval (.tmp 18) = Value.pointer (some ⟨mb, 0, none⟩)) (hm0 : w.cell? ⟨mb, 0, none⟩ = some (.slice (some ⟨eb, 0, none⟩) n n)) :
    Oper.wp Yba.prog o a w (fun a' w' => ∃ v, a' = a.put o.dst v ∧ Good5 B mb eb lb n wd L0 L2 12 v w' ∧ Below W0.heap.size W0 w' ∧ Below w.heap.size w w') Q := by
  subst ho
  simp only [Act.eval, Array.getD_eq_getD_getElem?] at g11
  exact wp_of_run (v := Value.slice (some ⟨eb, 0, none⟩) n n) (w' := w) (by go_simp) ⟨_, rfl, rfl, hJ, Below.refl _ _⟩

set_option maxRecDepth 100000 in
theorem s5_13 {o : Oper} {p : String} (ho : o = { dst := some 20, op := Op.call { callee := Callee.builtin Builtin.len, args := #[Operand.tmp 19], argTypes := #[23] }, type := 3, pos := p, after := #[{ on := 12, ground := Ground.data }], guard := none }) (hJ : Below W0.heap.size W0 w) (g12 : a.eval (.tmp 19) = Value.slice (some ⟨eb, 0, none⟩) n n) :
    Oper.wp Yba.prog o a w (fun a' w' => ∃ v, a' = a.put o.dst v ∧ Good5 B mb eb lb n wd L0 L2 13 v w' ∧ Below W0.heap.size W0 w' ∧ Below w.heap.size w w') Q := by
  subst ho
  simp only [Act.eval, Array.getD_eq_getD_getElem?] at g12
  exact wp_of_run (v := Value.int .i64 (n : Nat)) (w' := w) (by go_simp) ⟨_, rfl, rfl, hJ, Below.refl _ _⟩

set_option maxRecDepth 100000 in
theorem s5_14 {o : Oper} {p : String} (ho : o = { dst := some 21, op := Op.makeSlice 29 (Operand.tmp 20) (Operand.tmp 20), type := 29, pos := p, after := #[{ on := 13, ground := Ground.data }, { on := 13, ground := Ground.data }], guard := none }) (hJ : Below W0.heap.size W0 w) (g13 : a.eval (.tmp 20) = Value.int .i64 (n : Nat)) (hB : B ≤ W0.heap.size) (hn : n ≤ 65536) (hw : wd ≤ 65537) :
    Oper.wp Yba.prog o a w (fun a' w' => ∃ v, a' = a.put o.dst v ∧ Good5 B mb eb lb n wd L0 L2 14 v w' ∧ Below W0.heap.size W0 w' ∧ Below w.heap.size w w') Q := by
  subst ho
  simp only [Act.eval, Array.getD_eq_getD_getElem?] at g13
  have hmk := make_one (P := Yba.prog) (t := 29) (e := 3) Yba.underlying29 Yba.info3 rfl n (by omega) (by omega) w
  exact wp_of_run (v := .slice (some ⟨w.heap.size, 0, none⟩) n n) (w' := w.alloc (.cells (rep n (.int .i64 0)) 3)) (by go_simp) ⟨_, rfl, ⟨w.heap.size, rfl, Nat.le_trans hB hJ.size, blk_new _ _⟩, hJ.alloc hJ.size _, (Below.refl _ _).alloc (Nat.le_refl _) _⟩

set_option maxRecDepth 100000 in
theorem s5_15 {o : Oper} {p : String} (ho : o = { dst := some 22, op := Op.makeSlice 48 (Operand.const (Value.int IntKind.i64 16)) (Operand.const (Value.int IntKind.i64 16)), type := 48, pos := p, after := #[], guard := none }) (hJ : Below W0.heap.size W0 w) (hB : B ≤ W0.heap.size) (hn : n ≤ 65536) (hw : wd ≤ 65537) :
    Oper.wp Yba.prog o a w (fun a' w' => ∃ v, a' = a.put o.dst v ∧ Good5 B mb eb lb n wd L0 L2 15 v w' ∧ Below W0.heap.size W0 w' ∧ Below w.heap.size w w') Q := by
  subst ho
  have hmk : (Instr.makeSlice 48 (.int .i64 16) (.int .i64 16)).run Yba.prog w = _ := make_one (P := Yba.prog) (t := 48) (e := 21) Yba.underlying48 Yba.info21 rfl 16 (by omega) (by omega) w
  exact wp_of_run (v := .slice (some ⟨w.heap.size, 0, none⟩) 16 16) (w' := w.alloc (.cells (rep 16 (.int .i32 0)) 21)) (by go_simp) ⟨_, rfl, ⟨w.heap.size, rfl, Nat.le_trans hB hJ.size, blk_new _ _⟩, hJ.alloc hJ.size _, (Below.refl _ _).alloc (Nat.le_refl _) _⟩

set_option maxRecDepth 100000 in
theorem s5_16 {o : Oper} {p : String} (ho : o = { dst := some 23, op := Op.move (Operand.tmp 0), type := 28, pos := p, after := #[], guard := none }) (hJ : Below W0.heap.size W0 w) (t0 : a.eval (.tmp 0) = Value.pointer (some ⟨mb, 0, none⟩)) :
    Oper.wp Yba.prog o a w (fun a' w' => ∃ v, a' = a.put o.dst v ∧ Good5 B mb eb lb n wd L0 L2 16 v w' ∧ Below W0.heap.size W0 w' ∧ Below w.heap.size w w') Q := by
  subst ho
  simp only [Act.eval, Array.getD_eq_getD_getElem?] at t0
  exact wp_of_run (v := Value.pointer (some ⟨mb, 0, none⟩)) (w' := w) (by go_simp) ⟨_, rfl, rfl, hJ, Below.refl _ _⟩

set_option maxRecDepth 100000 in
theorem s5_17 {o : Oper} {p : String} (ho : o = { dst := some 24, op := Op.nilCheck (Operand.tmp 23), type := 0, pos := p, after := #[{ on := 16, ground := Ground.data }], guard := none }) (hJ : Below W0.heap.size W0 w) (g16 : a.eval (.tmp 23) = Value.pointer (some ⟨mb, 0, none⟩)) :
    Oper.wp Yba.prog o a w (fun a' w' => ∃ v, a' = a.put o.dst v ∧ Good5 B mb eb lb n wd L0 L2 17 v w' ∧ Below W0.heap.size W0 w' ∧ Below w.heap.size w w') Q := by
  subst ho
  simp only [Act.eval, Array.getD_eq_getD_getElem?] at g16
  exact wp_of_run (v := Value.pointer (some ⟨mb, 0, none⟩)) (w' := w) (by go_simp) ⟨_, rfl, rfl, hJ, Below.refl _ _⟩

set_option maxRecDepth 100000 in
theorem s5_18 {o : Oper} {p : String} (ho : o = { dst := some 25, op := Op.fieldAddr 34 (Operand.tmp 24) 3, type := 0, pos := p, after := #[{ on := 17, ground := Ground.data }], guard := none }) (hJ : Below W0.heap.size W0 w) (g17 : a.eval (.tmp 24) = Value.pointer (some ⟨mb, 0, none⟩)) :
    Oper.wp Yba.prog o a w (fun a' w' => ∃ v, a' = a.put o.dst v ∧ Good5 B mb eb lb n wd L0 L2 18 v w' ∧ Below W0.heap.size W0 w' ∧ Below w.heap.size w w') Q := by
  subst ho
  simp only [Act.eval, Array.getD_eq_getD_getElem?] at g17
  exact wp_of_run (v := Value.pointer (some ⟨mb, 3, none⟩)) (w' := w) (by go_simp) ⟨_, rfl, rfl, hJ, Below.refl _ _⟩

set_option maxRecDepth 100000 in
theorem s5_19 {o : Oper} {p : String} (ho : o = { dst := some 26, op := Op.load 31 (Operand.tmp 25), type := 31, pos := p, after := #[{ on := 18, ground := Ground.data }], guard := none }) (hJ : Below W0.heap.size W0 w) (g18 : a.eval (.tmp 25) = Value.pointer (some ⟨mb, 3, none⟩)) (hm3 : w.cell? ⟨mb, 3, none⟩ = some (.slice none 0 0)) :
    Oper.wp Yba.prog o a w (fun a' w' => ∃ v, a' = a.put o.dst v ∧ Good5 B mb eb lb n wd L0 L2 19 v w' ∧ Below W0.heap.size W0 w' ∧ Below w.heap.size w w') Q := by
  subst ho
  simp only [Act.eval, Array.getD_eq_getD_getElem?] at g18
  exact wp_of_run (v := Value.slice none 0 0) (w' := w) (by go_simp) ⟨_, rfl, rfl, hJ, Below.refl _ _⟩

set_option maxRecDepth 100000 in
theorem s5_20 {o : Oper} {p : String} (ho : o = { dst := some 27, op := Op.move (Operand.tmp 0), type := 28, pos := p, after := #[], guard := none }) (hJ : Below W0.heap.size W0 w) (t0 : a.eval (.tmp 0) = Value.pointer (some ⟨mb, 0, none⟩)) :
    Oper.wp Yba.prog o a w (fun a' w' => ∃ v, a' = a.put o.dst v ∧ Good5 B mb eb lb n wd L0 L2 20 v w' ∧ Below W0.heap.size W0 w' ∧ Below w.heap.size w w') Q := by
  subst ho
  simp only [Act.eval, Array.getD_eq_getD_getElem?] at t0
  exact wp_of_run (v := Value.pointer (some ⟨mb, 0, none⟩)) (w' := w) (by go_simp) ⟨_, rfl, rfl, hJ, Below.refl _ _⟩

set_option maxRecDepth 100000 in
theorem s5_21 {o : Oper} {p : String} (ho : o = { dst := some 28, op := Op.nilCheck (Operand.tmp 27), type := 0, pos := p, after := #[{ on := 20, ground := Ground.data }], guard := none }) (hJ : Below W0.heap.size W0 w) (g20 : a.eval (.tmp 27) = Value.pointer (some ⟨mb, 0, none⟩)) :
    Oper.wp Yba.prog o a w (fun a' w' => ∃ v, a' = a.put o.dst v ∧ Good5 B mb eb lb n wd L0 L2 21 v w' ∧ Below W0.heap.size W0 w' ∧ Below w.heap.size w w') Q := by
  subst ho
  simp only [Act.eval, Array.getD_eq_getD_getElem?] at g20
  exact wp_of_run (v := Value.pointer (some ⟨mb, 0, none⟩)) (w' := w) (by go_simp) ⟨_, rfl, rfl, hJ, Below.refl _ _⟩

set_option maxRecDepth 100000 in
theorem s5_22 {o : Oper} {p : String} (ho : o = { dst := some 29, op := Op.fieldAddr 34 (Operand.tmp 28) 0, type := 0, pos := p, after := #[{ on := 21, ground := Ground.data }], guard := none }) (hJ : Below W0.heap.size W0 w) (g21 : a.eval (.tmp 28) = Value.pointer (some ⟨mb, 0, none⟩)) :
    Oper.wp Yba.prog o a w (fun a' w' => ∃ v, a' = a.put o.dst v ∧ Good5 B mb eb lb n wd L0 L2 22 v w' ∧ Below W0.heap.size W0 w' ∧ Below w.heap.size w w') Q := by
  subst ho
  simp only [Act.eval, Array.getD_eq_getD_getElem?] at g21
  exact wp_of_run (v := Value.pointer (some ⟨mb, 0, none⟩)) (w' := w) (by go_simp) ⟨_, rfl, rfl, hJ, Below.refl _ _⟩

set_option maxRecDepth 100000 in
theorem s5_23 {o : Oper} {p : String} (ho : o = { dst := some 30, op := Op.load 23 (Operand.tmp 29), type := 23, pos := p, after := #[{ on := 22, ground := Ground.data }], guard := none }) (hJ : Below W0.heap.size W0 w) (g22 : a.eval (.tmp 29) = Value.pointer (some ⟨mb, 0, none⟩)) (hm0 : w.cell? ⟨mb, 0, none⟩ = some (.slice (some ⟨eb, 0, none⟩) n n)) :
    Oper.wp Yba.prog o a w (fun a' w' => ∃ v, a' = a.put o.dst v ∧ Good5 B mb eb lb n wd L0 L2 23 v w' ∧ Below W0.heap.size W0 w' ∧ Below w.heap.size w w') Q := by
  subst ho
  simp only [Act.eval, Array.getD_eq_getD_getElem?] at g22
  exact wp_of_run (v := Value.slice (some ⟨eb, 0, none⟩) n n) (w' := w) (by go_simp) ⟨_, rfl, rfl, hJ, Below.refl _ _⟩

set_option maxRecDepth 100000 in
theorem s5_24 {o : Oper} {p : String} (ho : o = { dst := some 31, op := Op.call { callee := Callee.builtin Builtin.len, args := #[Operand.tmp 30], argTypes := #[23] }, type := 3, pos := p, after := #[{ on := 23, ground := Ground.data }], guard := none }) (hJ : Below W0.heap.size W0 w) (g23 : a.eval (.tmp 30) = Value.slice (some ⟨eb, 0, none⟩) n n) :
    Oper.wp Yba.prog o a w (fun a' w' => ∃ v, a' = a.put o.dst v ∧ Good5 B mb eb lb n wd L0 L2 24 v w' ∧ Below W0.heap.size W0 w' ∧ Below w.heap.size w w') Q := by
  subst ho
  simp only [Act.eval, Array.getD_eq_getD_getElem?] at g23
  exact wp_of_run (v := Value.int .i64 (n : Nat)) (w' := w) (by go_simp) ⟨_, rfl, rfl, hJ, Below.refl _ _⟩

set_option maxRecDepth 100000 in
theorem s5_25 {o : Oper} {p : String} (ho : o = { dst := some 32, op := Op.call { callee := Callee.value (Operand.func 12), args := #[Operand.tmp 26, Operand.tmp 31], argTypes := #[31, 3] }, type := 49, pos := p, after := #[{ on := 19, ground := Ground.data }, { on := 24, ground := Ground.data }, { on := 5, ground := Ground.chain }], guard := none }) (hJ : Below W0.heap.size W0 w) (g19 : a.eval (.tmp 26) = Value.slice none 0 0) (g24 : a.eval (.tmp 31) = Value.int .i64 (n : Nat)) (hB : B ≤ W0.heap.size) (hn : n ≤ 65536) :
    Oper.wp Yba.prog o a w (fun a' w' => ∃ v, a' = a.put o.dst v ∧ Good5 B mb eb lb n wd L0 L2 25 v w' ∧ Below W0.heap.size W0 w' ∧ Below w.heap.size w w') Q := by
  subst ho
  simp only [Act.eval, Array.getD_eq_getD_getElem?] at g19 g24
  refine wp_of_call (f := 12) (args := #[.slice none 0 0, .int .i64 (n : Int)]) (w' := w) (by go_simp) ((watch_nil n w (by omega)).mono fun e w' h => ?_)
  obtain ⟨rfl, rfl⟩ := h
  exact ⟨_, rfl, _, rfl, ⟨w.heap.size, rfl, Nat.le_trans hB hJ.size, blk_new _ _⟩, hJ.alloc hJ.size _, (Below.refl _ _).alloc (Nat.le_refl _) _⟩

set_option maxRecDepth 100000 in
theorem s5_26 {o : Oper} {p : String} (ho : o = { dst := some 33, op := Op.move (Operand.tmp 0), type := 28, pos := p, after := #[], guard := none }) (hJ : Below W0.heap.size W0 w) (t0 : a.eval (.tmp 0) = Value.pointer (some ⟨mb, 0, none⟩)) :
    Oper.wp Yba.prog o a w (fun a' w' => ∃ v, a' = a.put o.dst v ∧ Good5 B mb eb lb n wd L0 L2 26 v w' ∧ Below W0.heap.size W0 w' ∧ Below w.heap.size w w') Q := by
  subst ho
  simp only [Act.eval, Array.getD_eq_getD_getElem?] at t0
  exact wp_of_run (v := Value.pointer (some ⟨mb, 0, none⟩)) (w' := w) (by go_simp) ⟨_, rfl, rfl, hJ, Below.refl _ _⟩

set_option maxRecDepth 100000 in
theorem s5_27 {o : Oper} {p : String} (ho : o = { dst := some 34, op := Op.nilCheck (Operand.tmp 33), type := 0, pos := p, after := #[{ on := 26, ground := Ground.data }], guard := none }) (hJ : Below W0.heap.size W0 w) (g26 : a.eval (.tmp 33) = Value.pointer (some ⟨mb, 0, none⟩)) :
    Oper.wp Yba.prog o a w (fun a' w' => ∃ v, a' = a.put o.dst v ∧ Good5 B mb eb lb n wd L0 L2 27 v w' ∧ Below W0.heap.size W0 w' ∧ Below w.heap.size w w') Q := by
  subst ho
  simp only [Act.eval, Array.getD_eq_getD_getElem?] at g26
  exact wp_of_run (v := Value.pointer (some ⟨mb, 0, none⟩)) (w' := w) (by go_simp) ⟨_, rfl, rfl, hJ, Below.refl _ _⟩

set_option maxRecDepth 100000 in
theorem s5_28 {o : Oper} {p : String} (ho : o = { dst := some 35, op := Op.fieldAddr 34 (Operand.tmp 34) 3, type := 0, pos := p, after := #[{ on := 27, ground := Ground.data }], guard := none }) (hJ : Below W0.heap.size W0 w) (g27 : a.eval (.tmp 34) = Value.pointer (some ⟨mb, 0, none⟩)) :
    Oper.wp Yba.prog o a w (fun a' w' => ∃ v, a' = a.put o.dst v ∧ Good5 B mb eb lb n wd L0 L2 28 v w' ∧ Below W0.heap.size W0 w' ∧ Below w.heap.size w w') Q := by
  subst ho
  simp only [Act.eval, Array.getD_eq_getD_getElem?] at g27
  exact wp_of_run (v := Value.pointer (some ⟨mb, 3, none⟩)) (w' := w) (by go_simp) ⟨_, rfl, rfl, hJ, Below.refl _ _⟩

set_option maxRecDepth 100000 in
theorem s5_29 {o : Oper} {p : String} (ho : o = { dst := some 36, op := Op.load 31 (Operand.tmp 35), type := 31, pos := p, after := #[{ on := 28, ground := Ground.data }], guard := none }) (hJ : Below W0.heap.size W0 w) (g28 : a.eval (.tmp 35) = Value.pointer (some ⟨mb, 3, none⟩)) (hm3 : w.cell? ⟨mb, 3, none⟩ = some (.slice none 0 0)) :
    Oper.wp Yba.prog o a w (fun a' w' => ∃ v, a' = a.put o.dst v ∧ Good5 B mb eb lb n wd L0 L2 29 v w' ∧ Below W0.heap.size W0 w' ∧ Below w.heap.size w w') Q := by
  subst ho
  simp only [Act.eval, Array.getD_eq_getD_getElem?] at g28
  exact wp_of_run (v := Value.slice none 0 0) (w' := w) (by go_simp) ⟨_, rfl, rfl, hJ, Below.refl _ _⟩

set_option maxRecDepth 100000 in
theorem s5_30 {o : Oper} {p : String} (ho : o = { dst := some 37, op := Op.call { callee := Callee.builtin Builtin.len, args := #[Operand.tmp 36], argTypes := #[31] }, type := 3, pos := p, after := #[{ on := 29, ground := Ground.data }], guard := none }) (hJ : Below W0.heap.size W0 w) (g29 : a.eval (.tmp 36) = Value.slice none 0 0) :
    Oper.wp Yba.prog o a w (fun a' w' => ∃ v, a' = a.put o.dst v ∧ Good5 B mb eb lb n wd L0 L2 30 v w' ∧ Below W0.heap.size W0 w' ∧ Below w.heap.size w w') Q := by
  subst ho
  simp only [Act.eval, Array.getD_eq_getD_getElem?] at g29
  exact wp_of_run (v := Value.int .i64 0) (w' := w) (by go_simp) ⟨_, rfl, rfl, hJ, Below.refl _ _⟩

set_option maxRecDepth 100000 in
theorem s5_31 {o : Oper} {p : String} (ho : o = { dst := some 38, op := Op.makeSlice 50 (Operand.tmp 37) (Operand.tmp 37), type := 50, pos := p, after := #[{ on := 30, ground := Ground.data }, { on := 30, ground := Ground.data }], guard := none }) (hJ : Below W0.heap.size W0 w) (g30 : a.eval (.tmp 37) = Value.int .i64 0) :
    Oper.wp Yba.prog o a w (fun a' w' => ∃ v, a' = a.put o.dst v ∧ Good5 B mb eb lb n wd L0 L2 31 v w' ∧ Below W0.heap.size W0 w' ∧ Below w.heap.size w w') Q := by
  subst ho
  simp only [Act.eval, Array.getD_eq_getD_getElem?] at g30
  obtain ⟨ob, hmk⟩ : ∃ ob, (Instr.makeSlice 50 (.int .i64 0) (.int .i64 0)).run Yba.prog w = .ok (.slice (some ⟨w.heap.size, 0, none⟩) 0 0) (w.alloc ob) := ⟨_, make_any (P := Yba.prog) (t := 50) (e := 165) Yba.underlying50 Yba.info165 0 (by omega) (by omega) w⟩
  exact wp_of_run (v := .slice (some ⟨w.heap.size, 0, none⟩) 0 0) (w' := w.alloc ob) (by go_simp) ⟨_, rfl, ⟨w.heap.size, rfl⟩, hJ.alloc hJ.size _, (Below.refl _ _).alloc (Nat.le_refl _) _⟩

set_option maxRecDepth 100000 in
theorem s5_32 {o : Oper} {p : String} (ho : o = { dst := some 39, op := Op.move (Operand.tmp 0), type := 28, pos := p, after := #[], guard := none }) (hJ : Below W0.heap.size W0 w) (t0 : a.eval (.tmp 0) = Value.pointer (some ⟨mb, 0, none⟩)) :
    Oper.wp Yba.prog o a w (fun a' w' => ∃ v, a' = a.put o.dst v ∧ Good5 B mb eb lb n wd L0 L2 32 v w' ∧ Below W0.heap.size W0 w' ∧ Below w.heap.size w w') Q := by
  subst ho
  simp only [Act.eval, Array.getD_eq_getD_getElem?] at t0
  exact wp_of_run (v := Value.pointer (some ⟨mb, 0, none⟩)) (w' := w) (by go_simp) ⟨_, rfl, rfl, hJ, Below.refl _ _⟩

set_option maxRecDepth 100000 in
theorem s5_33 {o : Oper} {p : String} (ho : o = { dst := some 40, op := Op.nilCheck (Operand.tmp 39), type := 0, pos := p, after := #[{ on := 32, ground := Ground.data }], guard := none }) (hJ : Below W0.heap.size W0 w) (g32 : a.eval (.tmp 39) = Value.pointer (some ⟨mb, 0, none⟩)) :
    Oper.wp Yba.prog o a w (fun a' w' => ∃ v, a' = a.put o.dst v ∧ Good5 B mb eb lb n wd L0 L2 33 v w' ∧ Below W0.heap.size W0 w' ∧ Below w.heap.size w w') Q := by
  subst ho
  simp only [Act.eval, Array.getD_eq_getD_getElem?] at g32
  exact wp_of_run (v := Value.pointer (some ⟨mb, 0, none⟩)) (w' := w) (by go_simp) ⟨_, rfl, rfl, hJ, Below.refl _ _⟩

set_option maxRecDepth 100000 in
theorem s5_34 {o : Oper} {p : String} (ho : o = { dst := some 41, op := Op.fieldAddr 34 (Operand.tmp 40) 3, type := 0, pos := p, after := #[{ on := 33, ground := Ground.data }], guard := none }) (hJ : Below W0.heap.size W0 w) (g33 : a.eval (.tmp 40) = Value.pointer (some ⟨mb, 0, none⟩)) :
    Oper.wp Yba.prog o a w (fun a' w' => ∃ v, a' = a.put o.dst v ∧ Good5 B mb eb lb n wd L0 L2 34 v w' ∧ Below W0.heap.size W0 w' ∧ Below w.heap.size w w') Q := by
  subst ho
  simp only [Act.eval, Array.getD_eq_getD_getElem?] at g33
  exact wp_of_run (v := Value.pointer (some ⟨mb, 3, none⟩)) (w' := w) (by go_simp) ⟨_, rfl, rfl, hJ, Below.refl _ _⟩

set_option maxRecDepth 100000 in
theorem s5_35 {o : Oper} {p : String} (ho : o = { dst := some 42, op := Op.load 31 (Operand.tmp 41), type := 31, pos := p, after := #[{ on := 34, ground := Ground.data }], guard := none }) (hJ : Below W0.heap.size W0 w) (g34 : a.eval (.tmp 41) = Value.pointer (some ⟨mb, 3, none⟩)) (hm3 : w.cell? ⟨mb, 3, none⟩ = some (.slice none 0 0)) :
    Oper.wp Yba.prog o a w (fun a' w' => ∃ v, a' = a.put o.dst v ∧ Good5 B mb eb lb n wd L0 L2 35 v w' ∧ Below W0.heap.size W0 w' ∧ Below w.heap.size w w') Q := by
  subst ho
  simp only [Act.eval, Array.getD_eq_getD_getElem?] at g34
  exact wp_of_run (v := Value.slice none 0 0) (w' := w) (by go_simp) ⟨_, rfl, rfl, hJ, Below.refl _ _⟩

set_option maxRecDepth 100000 in
theorem s5_36 {o : Oper} {p : String} (ho : o = { dst := some 43, op := Op.call { callee := Callee.builtin Builtin.len, args := #[Operand.tmp 42], argTypes := #[31] }, type := 3, pos := p, after := #[{ on := 35, ground := Ground.data }], guard := none }) (hJ : Below W0.heap.size W0 w) (g35 : a.eval (.tmp 42) = Value.slice none 0 0) :
    Oper.wp Yba.prog o a w (fun a' w' => ∃ v, a' = a.put o.dst v ∧ Good5 B mb eb lb n wd L0 L2 36 v w' ∧ Below W0.heap.size W0 w' ∧ Below w.heap.size w w') Q := by
  subst ho
  simp only [Act.eval, Array.getD_eq_getD_getElem?] at g35
  exact wp_of_run (v := Value.int .i64 0) (w' := w) (by go_simp) ⟨_, rfl, rfl, hJ, Below.refl _ _⟩

set_option maxRecDepth 100000 in
theorem s5_37 {o : Oper} {p : String} (ho : o = { dst := some 44, op := Op.makeSlice 29 (Operand.tmp 43) (Operand.tmp 43), type := 29, pos := p, after := #[{ on := 36, ground := Ground.data }, { on := 36, ground := Ground.data }], guard := none }) (hJ : Below W0.heap.size W0 w) (g36 : a.eval (.tmp 43) = Value.int .i64 0) :
    Oper.wp Yba.prog o a w (fun a' w' => ∃ v, a' = a.put o.dst v ∧ Good5 B mb eb lb n wd L0 L2 37 v w' ∧ Below W0.heap.size W0 w' ∧ Below w.heap.size w w') Q := by
  subst ho
  simp only [Act.eval, Array.getD_eq_getD_getElem?] at g36
  obtain ⟨ob, hmk⟩ : ∃ ob, (Instr.makeSlice 29 (.int .i64 0) (.int .i64 0)).run Yba.prog w = .ok (.slice (some ⟨w.heap.size, 0, none⟩) 0 0) (w.alloc ob) := ⟨_, make_any (P := Yba.prog) (t := 29) (e := 3) Yba.underlying29 Yba.info3 0 (by omega) (by omega) w⟩
  exact wp_of_run (v := .slice (some ⟨w.heap.size, 0, none⟩) 0 0) (w' := w.alloc ob) (by go_simp) ⟨_, rfl, ⟨w.heap.size, rfl⟩, hJ.alloc hJ.size _, (Below.refl _ _).alloc (Nat.le_refl _) _⟩

set_option maxRecDepth 100000 in
theorem s5_38 {o : Oper} {p : String} (ho : o = { dst := some 45, op := Op.move (Operand.tmp 0), type := 28, pos := p, after := #[], guard := none }) (hJ : Below W0.heap.size W0 w) (t0 : a.eval (.tmp 0) = Value.pointer (some ⟨mb, 0, none⟩)) :
    Oper.wp Yba.prog o a w (fun a' w' => ∃ v, a' = a.put o.dst v ∧ Good5 B mb eb lb n wd L0 L2 38 v w' ∧ Below W0.heap.size W0 w' ∧ Below w.heap.size w w') Q := by
  subst ho
  simp only [Act.eval, Array.getD_eq_getD_getElem?] at t0
  exact wp_of_run (v := Value.pointer (some ⟨mb, 0, none⟩)) (w' := w) (by go_simp) ⟨_, rfl, rfl, hJ, Below.refl _ _⟩

set_option maxRecDepth 100000 in
theorem s5_39 {o : Oper} {p : String} (ho : o = { dst := some 46, op := Op.nilCheck (Operand.tmp 45), type := 0, pos := p, after := #[{ on := 38, ground := Ground.data }], guard := none }) (hJ : Below W0.heap.size W0 w) (g38 : a.eval (.tmp 45) = Value.pointer (some ⟨mb, 0, none⟩)) :
    Oper.wp Yba.prog o a w (fun a' w' => ∃ v, a' = a.put o.dst v ∧ Good5 B mb eb lb n wd L0 L2 39 v w' ∧ Below W0.heap.size W0 w' ∧ Below w.heap.size w w') Q := by
  subst ho
  simp only [Act.eval, Array.getD_eq_getD_getElem?] at g38
  exact wp_of_run (v := Value.pointer (some ⟨mb, 0, none⟩)) (w' := w) (by go_simp) ⟨_, rfl, rfl, hJ, Below.refl _ _⟩

set_option maxRecDepth 100000 in
theorem s5_40 {o : Oper} {p : String} (ho : o = { dst := some 47, op := Op.fieldAddr 34 (Operand.tmp 46) 0, type := 0, pos := p, after := #[{ on := 39, ground := Ground.data }], guard := none }) (hJ : Below W0.heap.size W0 w) (g39 : a.eval (.tmp 46) = Value.pointer (some ⟨mb, 0, none⟩)) :
    Oper.wp Yba.prog o a w (fun a' w' => ∃ v, a' = a.put o.dst v ∧ Good5 B mb eb lb n wd L0 L2 40 v w' ∧ Below W0.heap.size W0 w' ∧ Below w.heap.size w w') Q := by
  subst ho
  simp only [Act.eval, Array.getD_eq_getD_getElem?] at g39
  exact wp_of_run (v := Value.pointer (some ⟨mb, 0, none⟩)) (w' := w) (by go_simp) ⟨_, rfl, rfl, hJ, Below.refl _ _⟩

set_option maxRecDepth 100000 in
theorem s5_41 {o : Oper} {p : String} (ho : o = { dst := some 48, op := Op.load 23 (Operand.tmp 47), type := 23, pos := p, after := #[{ on := 40, ground := Ground.data }], guard := none }) (hJ : Below W0.heap.size W0 w) (g40 : a.eval (.tmp 47) = Value.pointer (some ⟨mb, 0, none⟩)) (hm0 : w.cell? ⟨mb, 0, none⟩ = some (.slice (some ⟨eb, 0, none⟩) n n)) :
    Oper.wp Yba.prog o a w (fun a' w' => ∃ v, a' = a.put o.dst v ∧ Good5 B mb eb lb n wd L0 L2 41 v w' ∧ Below W0.heap.size W0 w' ∧ Below w.heap.size w w') Q := by
  subst ho
  simp only [Act.eval, Array.getD_eq_getD_getElem?] at g40
  exact wp_of_run (v := Value.slice (some ⟨eb, 0, none⟩) n n) (w' := w) (by go_simp) ⟨_, rfl, rfl, hJ, Below.refl _ _⟩

set_option maxRecDepth 100000 in
theorem s5_42 {o : Oper} {p : String} (ho : o = { dst := some 49, op := Op.call { callee := Callee.builtin Builtin.len, args := #[Operand.tmp 48], argTypes := #[23] }, type := 3, pos := p, after := #[{ on := 41, ground := Ground.data }], guard := none }) (hJ : Below W0.heap.size W0 w) (g41 : a.eval (.tmp 48) = Value.slice (some ⟨eb, 0, none⟩) n n) :
    Oper.wp Yba.prog o a w (fun a' w' => ∃ v, a' = a.put o.dst v ∧ Good5 B mb eb lb n wd L0 L2 42 v w' ∧ Below W0.heap.size W0 w' ∧ Below w.heap.size w w') Q := by
  subst ho
  simp only [Act.eval, Array.getD_eq_getD_getElem?] at g41
  exact wp_of_run (v := Value.int .i64 (n : Nat)) (w' := w) (by go_simp) ⟨_, rfl, rfl, hJ, Below.refl _ _⟩

set_option maxRecDepth 100000 in
theorem s5_43 {o : Oper} {p : String} (ho : o = { dst := some 50, op := Op.binOp BinOp.mul 3 (Operand.const (Value.int IntKind.i64 64)) (Operand.tmp 49) 3, type := 3, pos := p, after := #[{ on := 42, ground := Ground.data }], guard := none }) (hJ : Below W0.heap.size W0 w) (g42 : a.eval (.tmp 49) = Value.int .i64 (n : Nat)) (hn : n ≤ 65536) :
    Oper.wp Yba.prog o a w (fun a' w' => ∃ v, a' = a.put o.dst v ∧ Good5 B mb eb lb n wd L0 L2 43 v w' ∧ Below W0.heap.size W0 w' ∧ Below w.heap.size w w') Q := by
  subst ho
  simp only [Act.eval, Array.getD_eq_getD_getElem?] at g42
  exact wp_of_run (v := Value.int .i64 (64 * (n : Nat))) (w' := w) (by go_simp; simp only [IntKind.wrap_i64]; omega) ⟨_, rfl, rfl, hJ, Below.refl _ _⟩

set_option maxRecDepth 100000 in
theorem s5_44 {o : Oper} {p : String} (ho : o = { dst := some 51, op := Op.build 52 #[(0, Operand.tmp 7), (1, Operand.tmp 8), (2, Operand.tmp 9), (3, Operand.tmp 12), (4, Operand.tmp 15), (5, Operand.tmp 21), (6, Operand.tmp 22), (8, Operand.tmp 32), (9, Operand.tmp 38), (10, Operand.tmp 44), (7, Operand.tmp 50)], type := 52, pos := p, after := #[{ on := 0, ground := Ground.data }, { on := 1, ground := Ground.data }, { on := 2, ground := Ground.data }, { on := 5, ground := Ground.data }, { on := 8, ground := Ground.data }, { on := 14, ground := Ground.data }, { on := 15, ground := Ground.data }, { on := 25, ground := Ground.data }, { on := 31, ground := Ground.data }, { on := 37, ground := Ground.data }, { on := 43, ground := Ground.data }], guard := none }) (hJ : Below W0.heap.size W0 w) (g0 : (a.eval (.tmp 7)) = Value.pointer (some ⟨mb, 0, none⟩)) (g1 : (a.eval (.tmp 8)) = Value.agg #[L0, .int .i64 (wd : Nat), L2]) (g2 : (a.eval (.tmp 9)) = Value.agg #[.slice none 0 0, .int .i64 1, .int .u64 16, .int .i64 0]) (g5 : (a.eval (.tmp 12)) = Value.agg #[.slice none 0 0, .int .i64 (wd : Nat), .int .u64 (colShift wd), .int .i64 0]) (g8 : RowAt B wd (.int .u64 0) 53 (a.eval (.tmp 15)) w) (g14 : RowAt B n (.int .i64 0) 3 (a.eval (.tmp 21)) w) (g15 : RowAt B 16 (.int .i32 0) 21 (a.eval (.tmp 22)) w) (g25 : RowAt B n (.slice none 0 0) 29 (a.eval (.tmp 32)) w) (g31 : ∃ b : Nat, (a.eval (.tmp 38)) = .slice (some ⟨b, 0, none⟩) 0 0) (g37 : ∃ b : Nat, (a.eval (.tmp 44)) = .slice (some ⟨b, 0, none⟩) 0 0) (g43 : (a.eval (.tmp 50)) = Value.int .i64 (64 * (n : Nat))) :
    Oper.wp Yba.prog o a w (fun a' w' => ∃ v, a' = a.put o.dst v ∧ Good5 B mb eb lb n wd L0 L2 44 v w' ∧ Below W0.heap.size W0 w' ∧ Below w.heap.size w w') Q := by
  subst ho
  simp only [Act.eval, Array.getD_eq_getD_getElem?] at g0 g1 g2 g5 g43
  obtain ⟨b1, e1, r1⟩ := g8
  obtain ⟨b2, e2, r2⟩ := g14
  obtain ⟨b3, e3, r3⟩ := g15
  obtain ⟨b4, e4, r4⟩ := g25
  obtain ⟨b5, e5⟩ := g31
  obtain ⟨b6, e6⟩ := g37
  simp only [Act.eval, Array.getD_eq_getD_getElem?] at e1 e2 e3 e4 e5 e6
  exact wp_of_run (v := .agg (srch mb n wd L0 L2 (.slice (some ⟨b1, 0, none⟩) wd wd) (.slice (some ⟨b2, 0, none⟩) n n) (.slice (some ⟨b3, 0, none⟩) 16 16) (.slice (some ⟨b4, 0, none⟩) n n) (.slice (some ⟨b5, 0, none⟩) 0 0) (.slice (some ⟨b6, 0, none⟩) 0 0))) (w' := w) (by go_simp; rfl)
    ⟨_, rfl, ⟨_, _, _, _, _, _, rfl, ⟨b1, rfl, r1⟩, ⟨b2, rfl, r2⟩, ⟨b3, rfl, r3⟩, ⟨b4, rfl, r4⟩, ⟨b5, rfl⟩, b6, rfl⟩, hJ, Below.refl _ _⟩

set_option maxRecDepth 100000 in
theorem s5_45 {o : Oper} {p : String} (ho : o = { dst := some 52, op := Op.box 52 (Operand.tmp 51), type := 35, pos := p, after := #[{ on := 44, ground := Ground.data }], guard := none }) (hJ : Below W0.heap.size W0 w) (g44 : SrchV B mb n wd L0 L2 (a.eval (.tmp 51)) w) (hB : B ≤ W0.heap.size) :
    Oper.wp Yba.prog o a w (fun a' w' => ∃ v, a' = a.put o.dst v ∧ Good5 B mb eb lb n wd L0 L2 45 v w' ∧ Below W0.heap.size W0 w' ∧ Below w.heap.size w w') Q := by
  subst ho
  obtain ⟨s1, s2, s3, s4, s5, s6, e1, r1⟩ := g44
  simp only [Act.eval, Array.getD_eq_getD_getElem?] at e1
  have hb : Below w.heap.size w (w.alloc (.cells (srch mb n wd L0 L2 s1 s2 s3 s4 s5 s6) 52)) := (Below.refl _ _).alloc (Nat.le_refl _) _
  exact wp_of_run (v := .pointer (some ⟨w.heap.size, 0, none⟩)) (w' := w.alloc (.cells (srch mb n wd L0 L2 s1 s2 s3 s4 s5 s6) 52)) (by go_simp) ⟨_, rfl, ⟨w.heap.size, s1, s2, s3, s4, s5, s6, rfl, Nat.le_trans hB hJ.size, blk_new _ _, r1.keep hb⟩, hJ.alloc hJ.size _, hb⟩

set_option maxRecDepth 100000 in
theorem s5_46 {o : Oper} {p : String} (ho : o = { dst := some 4, op := Op.assign (Operand.tmp 52), type := 35, pos := p, after := #[{ on := 45, ground := Ground.data }, { on := 25, ground := Ground.chain }, { on := 0, ground := Ground.phase }, { on := 1, ground := Ground.phase }, { on := 2, ground := Ground.phase }, { on := 3, ground := Ground.phase }, { on := 4, ground := Ground.phase }, { on := 5, ground := Ground.phase }, { on := 6, ground := Ground.phase }, { on := 7, ground := Ground.phase }, { on := 8, ground := Ground.phase }, { on := 9, ground := Ground.phase }, { on := 10, ground := Ground.phase }, { on := 11, ground := Ground.phase }, { on := 12, ground := Ground.phase }, { on := 13, ground := Ground.phase }, { on := 14, ground := Ground.phase }, { on := 15, ground := Ground.phase }, { on := 16, ground := Ground.phase }, { on := 17, ground := Ground.phase }, { on := 18, ground := Ground.phase }, { on := 19, ground := Ground.phase }, { on := 20, ground := Ground.phase }, { on := 21, ground := Ground.phase }, { on := 22, ground := Ground.phase }, { on := 23, ground := Ground.phase }, { on := 24, ground := Ground.phase }, { on := 25, ground := Ground.phase }, { on := 26, ground := Ground.phase }, { on := 27, ground := Ground.phase }, { on := 28, ground := Ground.phase }, { on := 29, ground := Ground.phase }, { on := 30, ground := Ground.phase }, { on := 31, ground := Ground.phase }, { on := 32, ground := Ground.phase }, { on := 33, ground := Ground.phase }, { on := 34, ground := Ground.phase }, { on := 35, ground := Ground.phase }, { on := 36, ground := Ground.phase }, { on := 37, ground := Ground.phase }, { on := 38, ground := Ground.phase }, { on := 39, ground := Ground.phase }, { on := 40, ground := Ground.phase }, { on := 41, ground := Ground.phase }, { on := 42, ground := Ground.phase }, { on := 43, ground := Ground.phase }, { on := 44, ground := Ground.phase }, { on := 45, ground := Ground.phase }], guard := none }) (hJ : Below W0.heap.size W0 w) (g45 : SrchP B mb n wd L0 L2 (a.eval (.tmp 52)) w) :
    Oper.wp Yba.prog o a w (fun a' w' => ∃ v, a' = a.put o.dst v ∧ Good5 B mb eb lb n wd L0 L2 46 v w' ∧ Below W0.heap.size W0 w' ∧ Below w.heap.size w w') Q := by
  subst ho
  exact wp_of_run (v := a.eval (.tmp 52)) (w' := w) (by go_simp) ⟨_, rfl, g45, hJ, Below.refl _ _⟩
end

end Go.Proofs.Ybulkexoxc
