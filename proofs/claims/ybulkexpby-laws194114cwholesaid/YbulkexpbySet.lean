/- LawS194114CWhole: (*Vars).Set (29). -/
import Derived.Test.YbulkexpbyClone
import Derived.RegionTactic
import Derived.BigRegion
import Derived.ChangeAlike
import Derived.Deep.DeepCutAuto
import Derived.Deep.CutBlock
import Derived.Outline
namespace Go.Proofs.Ybulkexpby
open Go.RowKit Go.PK Go.SM
set_option linter.unusedVariables false

def vsCells (sv nv lv st sg fv : Value) (by_ : Int) : Array Value := #[sv, nv, lv, st, sg, fv, .int .i64 by_]
def MapAt (w : World) (v : Value) (A : AL) : Prop := (v = .map none ∧ A = []) ∨ ∃ b, v = .map (some b) ∧ StrMap w b A
def svOf (nb : Nat) (af : Int) : Value := .agg #[.pointer (some ⟨nb, 0, none⟩), .int .i64 af]
def Svs (A : AL) : Prop := ∀ p ∈ A, ∃ nb af, p.2 = svOf nb af
def keyV (p : ByteArray × Value) : Value := .string p.1
theorem zero71 (w : World) : (zeroValue 71).run Yba.prog w = .ok (.agg #[.pointer none, .int .i64 0]) w := by kernel_rfl
theorem eql61 (w : World) (m : Nat) : (binOp .eql 61 (.map (some m)) (.map none)).run Yba.prog w = .ok (.bool false) w := by kernel_rfl
theorem eql61n (w : World) : (binOp .eql 61 (.map none) (.map none)).run Yba.prog w = .ok (.bool true) w := by kernel_rfl

/-- 'append(xs, x)' of one element of one cell, with the place of the new slice. -/
theorem wpList_app1_at {P : Program} (w : World) {ops : Array Oper} {rest : List Oper} {o : Oper} {a : Act} {Q : Exit → Act → World → Prop}
    (hgd : o.guard = none) (s x : Operand) (t : TypeId) (ho : o.op = .call { callee := .builtin .append, args := #[s, x], argTypes := #[t, t] })
    (base : Nat) (e : TypeId) (z : Value) (bytes : Nat) (ht : P.underlying t = some (.slice e)) (hi : (P.info? e).map (fun i => (i.zero, i.size, i.bytes)) = some (some z, 1, bytes)) (hz : z.cells.size = 1)
    (v : Value) (n : Nat) (xs : List Value) (hs : a.eval s = v) (hown : w.ownsRow base e 1 v n xs)
    (b c : Nat) (u : Value) (hx : a.eval x = .slice (some ⟨b, 0, none⟩) 1 c) (hcell : w.cell? ⟨b, 0, none⟩ = some u) (h1 : u.oneCell' = true)
    (h63 : n + 1 ≤ maxLen) (hbytes : (n + 1) * bytes ≤ 140737488355328) (hbase : base ≤ w.heap.size)
    (h : ∀ (g' cap' : Nat) (w' : World), w'.ownsRow base e 1 (.slice (some ⟨g', 0, none⟩) (n + 1) cap') (n + 1) (xs ++ [u]) → w.grownBy w' v.ownBlock → (v.ownBlock = some g' ∨ g' = w.heap.size) → wpList P ops Q rest (a.put o.dst (.slice (some ⟨g', 0, none⟩) (n + 1) cap')) w') :
    wpList P ops Q (o :: rest) a w := by
  obtain ⟨i, hi, hz0, hz1, hz2⟩ := info_parts hi
  refine wpList_append_own_at w hgd s x t ho base e i z 1 bytes ht hi hz0 hz1 hz2 hz (by omega) v n xs hs hown ⟨b, 0, none⟩ 1 c [u] hx (by simp) ?_ (by simpa using h1) h63 hbytes hbase ?_
  · intro j u' hj
    cases j with
    | zero => simp at hj; subst hj; simpa [Addr.add] using hcell
    | succ j => simp at hj
  · intro v' w' h2 h3 h4 h5
    obtain ⟨g, cap, rfl⟩ := Joins.ownsRow_form h2 (by omega)
    refine h g cap w' h2 h3 ?_
    rcases h5 with h5 | h5
    · exact .inl h5.symm
    · simp [Value.ownBlock] at h5; exact .inr h5

/-- What a step leaves as it was: all old blocks but those of M. -/
structure Moved (w w' : World) (M : Nat → Prop) : Prop where
  os : w'.os = w.os
  tape : w'.tape = w.tape
  output : w'.output = w.output
  size : w.heap.size ≤ w'.heap.size
  block : ∀ b, b < w.heap.size → ¬ M b → w'.heap[b]? = w.heap[b]?

theorem Moved.refl (w : World) (M : Nat → Prop) : Moved w w M := ⟨rfl, rfl, rfl, Nat.le_refl _, fun _ _ _ => rfl⟩
theorem Moved.mono {w w' : World} {M M' : Nat → Prop} (h : Moved w w' M) (hm : ∀ b, M b → M' b) : Moved w w' M' := ⟨h.os, h.tape, h.output, h.size, fun b hb hn => h.block b hb fun hM => hn (hm b hM)⟩
theorem Moved.trans {a b c : World} {M : Nat → Prop} (h : Moved a b M) {M' : Nat → Prop} (k : Moved b c M') (hm : ∀ i, M' i → M i ∨ a.heap.size ≤ i) : Moved a c M :=
  ⟨k.os.trans h.os, k.tape.trans h.tape, k.output.trans h.output, Nat.le_trans h.size k.size, fun i hi hn => by
    rw [k.block i (Nat.lt_of_lt_of_le hi h.size) (fun hM => (hm i hM).elim hn (fun h1 => by omega)), h.block i hi hn]⟩
theorem Moved.of_grown {w w' : World} {row : Option Nat} (h : w.grownBy w' row) : Moved w w' (fun b => row = some b) := ⟨h.os, h.tape, h.output, h.size, fun b hb hn => h.block b hb (fun e => hn e.symm)⟩
theorem Moved.of_below {B : Nat} {w w' : World} (h : Below B w w') : Moved w w' (fun b => B ≤ b) := ⟨h.os, h.tape, h.output, h.size, fun b hb hn => h.block b (by omega)⟩
theorem Moved.blk {w w' : World} {M : Nat → Prop} (h : Moved w w' M) {b : Nat} {o : Obj} (hb : w.heap[b]? = some o) (hn : ¬ M b) : w'.heap[b]? = some o := by rw [h.block b (blk_lt hb) hn]; exact hb
theorem Moved.below {w w' : World} {M : Nat → Prop} (h : Moved w w' M) {B : Nat} (hB : B ≤ w.heap.size) (hm : ∀ b, M b → B ≤ b) : Below B w w' := ⟨h.os, h.tape, h.output, h.size, fun b hb => h.block b (by omega) (fun hM => by have := hm b hM; omega)⟩
theorem Moved.alloc (w : World) (o : Obj) (M : Nat → Prop) : Moved w (w.alloc o) M := ⟨rfl, rfl, rfl, by simp, fun b hb _ => Below.heap_alloc _ _ _ hb⟩
theorem Moved.setCell (w : World) (a : Addr) (v : Value) : Moved w (w.setCell a v) (fun b => b = a.block) := ⟨rfl, rfl, rfl, by simp, fun b _ hn => Below.heap_setCell _ _ _ _ hn⟩

theorem MapAt.kept {w w' : World} {v : Value} {A : AL} (h : MapAt w v A) (hk : ∀ b o, v = .map (some b) → w.heap[b]? = some o → w'.heap[b]? = some o) : MapAt w' v A := by
  rcases h with h | ⟨b, rfl, h⟩
  · exact .inl h
  · exact .inr ⟨b, rfl, h.kept fun o ho => hk b o rfl ho⟩

theorem MapAt.drop {w : World} {v : Value} {A : AL} (h : MapAt w v A) (k : ByteArray) :
    ∃ w', (Builtin.delete_ #[63, 9] 0 #[v, .string k]).run Yba.prog w = .ok (.tuple #[]) w' ∧ MapAt w' v (del A k) ∧ Moved w w' (fun b => v = .map (some b)) := by
  rcases h with ⟨rfl, rfl⟩ | ⟨b, rfl, h⟩
  · refine ⟨w, ?_, .inl ⟨rfl, rfl⟩, Moved.refl _ _⟩
    simp [Builtin.delete_, run_underlying Yba.underlying63, MapKept.run_checkKey Yba.underlying9 (k := .string k) trivial, Result.andThen]
  · obtain ⟨w', h1, h2, h3, _⟩ := h.drop Yba.underlying63 Yba.underlying9 (ty := 0) k
    exact ⟨w', h1, .inr ⟨b, rfl, h2⟩, (Moved.of_grown h3).mono fun i hi => by cases hi; rfl⟩

structure VarsAt (w : World) (vb B : Nat) (sv nv lv st sg fv : Value) (by_ : Int) (A F : AL) : Prop where
  blk : w.heap[vb]? = some (.cells (vsCells sv nv lv st sg fv by_) 66)
  set : MapAt w sv A
  names : w.ownsRow B 9 1 nv A.length (A.map keyV)
  found : MapAt w fv F
  apart : ∀ b, sv = .map (some b) → fv ≠ .map (some b)

theorem row_ne {w : World} {B e size n g b : Nat} {v : Value} {xs : List Value} {cs : Array Value} {t : TypeId} {m : Nat × Nat} (h : w.ownsRow B e size v n xs) (hv : v.ownBlock = some g) (hb : w.heap[b]? = some (.cells cs t m)) (hne : t ≠ e) : b ≠ g := by
  rcases Joins.ownsRow_forms h with ⟨rfl, rfl⟩ | ⟨g', cap, rfl⟩
  · cases hv
  · cases hv
    obtain ⟨cur, hc, _⟩ := own_blk h
    exact ne_of_type hb hc hne
theorem row_ne_map {w : World} {B e size n g b : Nat} {v : Value} {xs : List Value} {A : AL} (h : w.ownsRow B e size v n xs) (hv : v.ownBlock = some g) (hb : StrMap w b A) : g ≠ b := by
  rcases Joins.ownsRow_forms h with ⟨rfl, rfl⟩ | ⟨g', cap, rfl⟩
  · cases hv
  · cases hv
    obtain ⟨cur, hc, _⟩ := own_blk h
    exact hb.ne hc
theorem row_kept {w w' : World} {B e size n : Nat} {v : Value} {xs : List Value} (h : w.ownsRow B e size v n xs) (hk : ∀ g o, v.ownBlock = some g → w.heap[g]? = some o → w'.heap[g]? = some o) : w'.ownsRow B e size v n xs := by
  rcases Joins.ownsRow_forms h with ⟨rfl, rfl⟩ | ⟨g', cap, rfl⟩
  · exact ⟨h.1, .inl ⟨rfl, rfl⟩⟩
  · exact own_keep h fun o ho => hk g' o rfl ho

theorem keys_old : ∀ {A : AL} {k : ByteArray} {v u : Value}, SM.look A k = some u → (put A k v).length = A.length ∧ (put A k v).map keyV = A.map keyV
  | [], _, _, _, h => by cases h
  | p :: A, k, v, u, h => by
    by_cases e : p.1 = k
    · simp [put, e, keyV]
    · simp only [SM.look, if_neg e] at h
      have := keys_old (v := v) h
      simp [put, e, this]
theorem keys_new : ∀ {A : AL} {k : ByteArray} {v : Value}, SM.look A k = none → put A k v = A ++ [(k, v)]
  | [], _, _, _ => rfl
  | p :: A, k, v, h => by
    by_cases e : p.1 = k
    · simp [SM.look, e] at h
    · simp only [SM.look, if_neg e] at h
      simp [put, e, keys_new h]

/-- Regions 5 and 6 of Set, as worlds. -/
theorem set_tail (vb B sm p nl : Nat) (k : ByteArray) (nv lv st sg fv : Value) (by_ : Int) (A F : AL) (X : World)
    (hv : X.heap[vb]? = some (.cells (vsCells (.map (some sm)) nv lv st sg fv by_) 66)) (hm : StrMap X sm A) (hn : X.ownsRow B 9 1 nv (put A k (svOf p nl)).length ((put A k (svOf p nl)).map keyV)) (hf : MapAt X fv F) (hap : fv ≠ .map (some sm)) :
    ∃ Y Z, (Instr.mapUpdate 61 (.map (some sm)) (.string k) (.agg #[.pointer (some ⟨p, 0, none⟩), .int .i64 nl])).run Yba.prog X.drew = .ok () Y ∧ Y.cell? ⟨vb, 5, none⟩ = some fv ∧
      (Builtin.delete_ #[63, 9] 0 #[fv, .string k]).run Yba.prog Y = .ok (.tuple #[]) Z ∧ VarsAt Z vb B (.map (some sm)) nv lv st sg fv by_ (put A k (svOf p nl)) (del F k) ∧
      Moved X Z (fun b => b = sm ∨ fv = .map (some b)) := by
  have hmX : StrMap X.drew sm A := hm
  obtain ⟨Y, hYr, hYm, hYg, hYs⟩ := hmX.store Yba.underlying61 Yba.underlying9 k (.agg #[.pointer (some ⟨p, 0, none⟩), .int .i64 nl])
  have hM1 : Moved X Y (fun b => b = sm) := ⟨hYg.os, hYg.tape, hYg.output, hYg.size, fun b hb hne => hYg.block b hb (by simpa using hne)⟩
  have hvY := hM1.blk hv (hm.ne hv)
  have hfY : MapAt Y fv F := hf.kept fun b o e ho => hM1.blk ho (fun hb => hap (by rw [e, hb]))
  obtain ⟨Z, hZr, hZm, hM2⟩ := hfY.drop k
  have hnf : ∀ b, fv = .map (some b) → b ≠ vb ∧ ∀ g, nv.ownBlock = some g → g ≠ b := by
    intro b e
    rcases hf with ⟨h, _⟩ | ⟨b', h, hb'⟩
    · rw [h] at e; cases e
    · rw [h] at e
      cases e
      exact ⟨(hb'.ne hv).symm, fun g hg => row_ne_map hn hg hb'⟩
  refine ⟨Y, Z, hYr, ?_, hZr, ⟨?_, ?_, ?_, hZm, fun b e => ?_⟩, (hM1.mono fun b h => .inl h).trans hM2 fun b h => .inl (.inr h)⟩
  · rw [cell_of_row _ _ _ _ _ _ hvY]; rfl
  · exact hM2.blk hvY fun e => (hnf _ e).1 rfl
  · exact .inr ⟨sm, rfl, hYm.kept fun o ho => hM2.blk ho fun e => hap e⟩
  · refine row_kept hn fun g o hg ho => hM2.blk (hM1.blk ho (row_ne_map hn hg hm)) fun e => (hnf _ e).2 g hg rfl
  · cases e; exact hap

set_option maxHeartbeats 1000000 in
set_option maxRecDepth 100000 in
theorem set_old (vb B sm nb nl : Nat) (af by_ : Int) (k : ByteArray) (p : Nat) (nv st sg fv : Value) (lp : Option Addr) (lc : Nat) (A F : AL) (w : World)
    (h : VarsAt w vb B (.map (some sm)) nv (.slice lp nl lc) st sg fv by_ A F) (hnl : nl ≤ 100) (hk : SM.look A k = some (svOf nb af)) :
    Calls Yba.prog 29 #[.pointer (some ⟨vb, 0, none⟩), .string k, .pointer (some ⟨p, 0, none⟩)] w fun e w' => e = .returned (.tuple #[]) ∧ ∃ sv' nv', VarsAt w' vb B sv' nv' (.slice lp nl lc) st sg fv by_ (put A k (svOf p nl)) (del F k) ∧
      Moved w w' (fun b => b = vb ∨ Value.map (some sm) = .map (some b) ∨ nv.ownBlock = some b ∨ fv = .map (some b)) ∧ (∃ s, sv' = .map (some s) ∧ (Value.map (some sm) = .map (some s) ∨ w.heap.size ≤ s)) ∧
      (nv'.ownBlock = nv.ownBlock ∨ ∃ q, nv'.ownBlock = some q ∧ w.heap.size ≤ q) := by
  obtain ⟨hvb, hset, hnames, hfm, hap⟩ := h
  have hsm : StrMap w sm A := by
    rcases hset with ⟨e, _⟩ | ⟨b, e, h⟩
    · cases e
    · cases e; exact h
  have c0 : w.cell? ⟨vb, 0, none⟩ = some (.map (some sm)) := by rw [cell_of_row _ _ _ _ _ _ hvb]; rfl
  have q61 := eql61
  have hf := StrMap.find Yba.underlying61 Yba.underlying9 (zero71 w) hsm k true
  rw [hk] at hf
  simp only [Option.getD, Option.isSome, if_true, svOf] at hf
  obtain ⟨X, hX⟩ : ∃ X, X = w.alloc (.cells #[.pointer (some ⟨nb, 0, none⟩), .int .i64 af] 71) := ⟨_, rfl⟩
  have hMX : Moved w X (fun _ => False) := by rw [hX]; exact Moved.alloc _ _ _
  have hvX := hMX.blk hvb id
  have d0 : X.cell? ⟨vb, 0, none⟩ = some (.map (some sm)) := by rw [cell_of_row _ _ _ _ _ _ hvX]; rfl
  have d2 : X.cell? ⟨vb, 2, none⟩ = some (.slice lp nl lc) := by rw [cell_of_row _ _ _ _ _ _ hvX]; rfl
  have hko := keys_old (v := svOf p nl) hk
  obtain ⟨Y, Z, hYr, f5, hZr, hV, hM⟩ := set_tail vb B sm p nl k nv (.slice lp nl lc) st sg fv by_ A F X hvX (hsm.kept fun o ho => hMX.blk ho id) (by rw [hko.1, hko.2]; exact row_kept hnames fun g o _ ho => hMX.blk ho id) (hfm.kept fun b o _ ho => hMX.blk ho id) (hap sm rfl)
  clear hfm hnames hap hset
  go_enter Yba.func29, Yba.ntmps29
  go_wp2
  rw [← hX]
  clear hX
  go_region
  go_wp2
  go_end0
  refine ⟨rfl, _, _, hV, (hMX.mono fun _ h => h.elim).trans hM fun b hb => ?_, ⟨sm, rfl, .inl rfl⟩, .inl rfl⟩
  rcases hb with rfl | hb
  · exact .inl (.inr (.inl rfl))
  · exact .inl (.inr (.inr (.inr hb)))

set_option maxHeartbeats 1000000 in
set_option maxRecDepth 100000 in
theorem set_new (vb B sm nl : Nat) (by_ : Int) (k : ByteArray) (p : Nat) (nv st sg fv : Value) (lp : Option Addr) (lc : Nat) (A F : AL) (w : World)
    (h : VarsAt w vb B (Value.map (some sm)) nv (.slice lp nl lc) st sg fv by_ A F) (hnl : nl ≤ 100) (hk : SM.look A k = none) (hA : A.length ≤ 100000) (hB : B ≤ w.heap.size) :
    Calls Yba.prog 29 #[.pointer (some ⟨vb, 0, none⟩), .string k, .pointer (some ⟨p, 0, none⟩)] w fun e w' => e = .returned (.tuple #[]) ∧ ∃ sv' nv', VarsAt w' vb B sv' nv' (.slice lp nl lc) st sg fv by_ (put A k (svOf p nl)) (del F k) ∧
      Moved w w' (fun b => b = vb ∨ Value.map (some sm) = .map (some b) ∨ nv.ownBlock = some b ∨ fv = .map (some b)) ∧ (∃ s, sv' = .map (some s) ∧ (Value.map (some sm) = .map (some s) ∨ w.heap.size ≤ s)) ∧
      (nv'.ownBlock = nv.ownBlock ∨ ∃ q, nv'.ownBlock = some q ∧ w.heap.size ≤ q) := by
  obtain ⟨hvb, hset, hnames, hfm, hap⟩ := h
  have hsm : StrMap w sm A := by
    rcases hset with ⟨e, _⟩ | ⟨b, e, h⟩
    · cases e
    · cases e; exact h
  have q61 := eql61
  
  have hMW : Moved w w (fun b => b = vb) := Moved.refl _ _
  have hMsz := hMW.size
  have hvW : w.heap[vb]? = some (.cells (vsCells (.map (some sm)) nv (.slice lp nl lc) st sg fv by_) 66) := hvb
  have hnW : w.ownsRow B 9 1 nv A.length (A.map keyV) := hnames
  have hfW : MapAt w fv F := hfm
  have hapW := hap sm rfl
  have c0 : w.cell? ⟨vb, 0, none⟩ = some (.map (some sm)) := by rw [cell_of_row _ _ _ _ _ _ hvW]; rfl
  have hf := StrMap.find Yba.underlying61 Yba.underlying9 (zero71 w) hsm k true
  rw [hk] at hf
  simp only [Option.getD, Option.isSome, if_true] at hf
  obtain ⟨X, hX⟩ : ∃ X, X = w.alloc (.cells #[.pointer none, .int .i64 0] 71) := ⟨_, rfl⟩
  have hMX : Moved w X (fun _ => False) := by rw [hX]; exact Moved.alloc _ _ _
  have hXsz := hMX.size
  have hvX := hMX.blk hvW id
  have d1 : X.cell? ⟨vb, 1, none⟩ = some nv := by rw [cell_of_row _ _ _ _ _ _ hvX]; rfl
  have d1' : (w.alloc (.cells #[.pointer none, .int .i64 0] 71)).cell? ⟨vb, 1, none⟩ = some nv := by rw [← hX]; exact d1
  have hnX : X.ownsRow B 9 1 nv A.length (A.map keyV) := row_kept hnW fun g o _ ho => hMX.blk ho id
  have hkn := keys_new (v := svOf p nl) hk
  clear hfm hnames hset hnW
  go_enter Yba.func29, Yba.ntmps29
  go_wp2_with (at_builtin; refine wpList_app1_at _ rfl _ _ 39 rfl B 9 _ 16 Yba.underlying39 Yba.info9 rfl nv A.length (A.map keyV) rfl ?hown (w.heap.size + 1) 1 (.string k) ?hx ?hcell rfl ?hA1 ?hA2 ?hA3 ?hK)
  case hown => rw [← hX]; exact row_kept hnX fun g o _ ho => blk_alloc ho _
  case hx => rfl
  case hA1 => unfold maxLen; omega
  case hA2 => omega
  case hA3 => simp only [World.size_alloc]; omega
  case hcell => rw [← hX, cell_of_row _ _ _ _ _ _ (blk_at (w := X) (b := w.heap.size + 1) (by rw [hX]; simp))]; rfl
  case hK =>
    intro g cap w1 hown hgrow hloc
    rw [← hX] at hgrow
    clear hX
    have hv1 : w1.heap[vb]? = some (.cells (vsCells (.map (some sm)) nv (.slice lp nl lc) st sg fv by_) 66) := blk_grown (blk_alloc hvX _) hgrow (fun e => row_ne hnX e.symm hvX (by decide) rfl)
    have e1 : w1.cell? ⟨vb, 1, none⟩ = some nv := by rw [cell_of_row _ _ _ _ _ _ hv1]; rfl
    have ef : w1.frozen? ⟨vb, 1, none⟩ = false := frozen_of_row w1 vb 1 _ 66 hv1
    obtain ⟨X2, hX2⟩ : ∃ X2, X2 = w1.setCell ⟨vb, 1, none⟩ (.slice (some ⟨g, 0, none⟩) (A.length + 1) cap) := ⟨_, rfl⟩
    have hv2 : X2.heap[vb]? = some (.cells (vsCells (.map (some sm)) (.slice (some ⟨g, 0, none⟩) (A.length + 1) cap) (.slice lp nl lc) st sg fv by_) 66) := by rw [hX2]; exact blk_same hv1 1 _
    have hM2 : Moved X X2 (fun b => b = vb ∨ nv.ownBlock = some b) := by
      rw [hX2]
      exact ((Moved.alloc X _ _).trans (Moved.of_grown hgrow) fun i h => .inl (.inr h)).trans (Moved.setCell _ _ _) fun i h => .inl (.inl h)
    have hsX : StrMap X sm A := hsm.kept fun o ho => hMX.blk ho id
    have hs2 : StrMap X2 sm A := hsX.kept fun o ho => hM2.blk ho (by
      rintro (e | e)
      · exact hsX.ne hvX e.symm
      · exact row_ne_map hnX e hsX rfl)
    have hg1 : g ≠ vb := by
      obtain ⟨cur, hc, _⟩ := own_blk hown
      exact ne_of_type hc hv1 (by decide)
    have hn2 : X2.ownsRow B 9 1 (.slice (some ⟨g, 0, none⟩) (A.length + 1) cap) (put A k (svOf p nl)).length ((put A k (svOf p nl)).map keyV) := by
      have hh : (put A k (svOf p nl)).length = A.length + 1 ∧ (put A k (svOf p nl)).map keyV = (A.map keyV) ++ [.string k] := by rw [hkn]; simp [keyV]
      rw [hh.1, hh.2, hX2]
      exact own_keep hown fun o ho => blk_set ho hg1 _
    have hf2 : MapAt X2 fv F := (hfW.kept fun b o _ ho => hMX.blk ho id).kept fun b o e ho => hM2.blk ho (by
      rcases hfW with ⟨h, _⟩ | ⟨b', h, hb'⟩
      · rw [h] at e; cases e
      · rw [h] at e
        cases e
        have hb2 : StrMap X b F := hb'.kept fun o ho => hMX.blk ho id
        rintro (e | e)
        · exact hb2.ne hvX e.symm
        · exact row_ne_map hnX e hb2 rfl)
    have h20 : X2.cell? ⟨vb, 0, none⟩ = some (.map (some sm)) := by rw [cell_of_row _ _ _ _ _ _ hv2]; rfl
    have h22 : X2.cell? ⟨vb, 2, none⟩ = some (.slice lp nl lc) := by rw [cell_of_row _ _ _ _ _ _ hv2]; rfl
    obtain ⟨Y, Z, hYr, f5, hZr, hV, hM⟩ := set_tail vb B sm p nl k _ (.slice lp nl lc) st sg fv by_ A F X2 hv2 hs2 hn2 hf2 hapW
    go_wp2
    rw [← hX2]
    clear hX2
    go_region
    go_wp2
    go_end0
    have hMw : Moved w X2 (fun b => b = vb ∨ nv.ownBlock = some b) := (hMW.mono fun b h => .inl h).trans ((hMX.mono fun _ h => h.elim).trans hM2 fun i h => .inl h) fun i h => .inl h
    refine ⟨rfl, _, _, hV, (hMw.mono ?_).trans hM ?_, ⟨sm, rfl, .inl rfl⟩, ?_⟩
    · rintro b (h | h)
      · exact .inl h
      · exact .inr (.inr (.inl h))
    · rintro b (rfl | h)
      · exact .inl (.inr (.inl rfl))
      · exact .inl (.inr (.inr (.inr h)))
    · rcases hloc with h | h
      · exact .inl h.symm
      · exact .inr ⟨g, rfl, by omega⟩

set_option maxHeartbeats 1000000 in
set_option maxRecDepth 100000 in
theorem set_nil (vb B nl : Nat) (by_ : Int) (k : ByteArray) (p : Nat) (nv st sg fv : Value) (lp : Option Addr) (lc : Nat) (A F : AL) (w : World)
    (h : VarsAt w vb B (Value.map none) nv (.slice lp nl lc) st sg fv by_ A F) (hnl : nl ≤ 100) (hk : SM.look A k = none) (hA : A.length ≤ 100000) (hB : B ≤ w.heap.size) :
    Calls Yba.prog 29 #[.pointer (some ⟨vb, 0, none⟩), .string k, .pointer (some ⟨p, 0, none⟩)] w fun e w' => e = .returned (.tuple #[]) ∧ ∃ sv' nv', VarsAt w' vb B sv' nv' (.slice lp nl lc) st sg fv by_ (put A k (svOf p nl)) (del F k) ∧
      Moved w w' (fun b => b = vb ∨ Value.map none = .map (some b) ∨ nv.ownBlock = some b ∨ fv = .map (some b)) ∧ (∃ s, sv' = .map (some s) ∧ (Value.map none = .map (some s) ∨ w.heap.size ≤ s)) ∧
      (nv'.ownBlock = nv.ownBlock ∨ ∃ q, nv'.ownBlock = some q ∧ w.heap.size ≤ q) := by
  obtain ⟨hvb, hset, hnames, hfm, hap⟩ := h
  have hA0 : A = [] := by
    rcases hset with ⟨_, e⟩ | ⟨b, e, h⟩
    · exact e
    · cases e
  subst hA0
  have hmm := @run_makeMap Yba.prog
  have b0 : w.cell? ⟨vb, 0, none⟩ = some (.map none) := by rw [cell_of_row _ _ _ _ _ _ hvb]; rfl
  have q61 := eql61n
  have hal : (w.alloc (.map #[] 0)).heap[vb]? = some (.cells (vsCells (.map none) nv (.slice lp nl lc) st sg fv by_) 66) := blk_alloc hvb _
  have b0' : (w.alloc (.map #[] 0)).cell? ⟨vb, 0, none⟩ = some (.map none) := by rw [cell_of_row _ _ _ _ _ _ hal]; rfl
  have bf : (w.alloc (.map #[] 0)).frozen? ⟨vb, 0, none⟩ = false := frozen_of_row _ vb 0 _ 66 hal
  obtain ⟨W, hW⟩ : ∃ W, W = (w.alloc (.map #[] 0)).setCell ⟨vb, 0, none⟩ (.map (some w.heap.size)) := ⟨_, rfl⟩
  obtain ⟨sm, hsme⟩ : ∃ sm, sm = w.heap.size := ⟨_, rfl⟩
  have hMW : Moved w W (fun b => b = vb) := by rw [hW]; exact (Moved.alloc w _ _).trans (Moved.setCell _ _ _) fun i h => .inl h
  have hvW : W.heap[vb]? = some (.cells (vsCells (.map (some sm)) nv (.slice lp nl lc) st sg fv by_) 66) := by rw [hW, hsme]; exact blk_same hal 0 _
  have hsm : StrMap W sm [] := by
    rw [hW, hsme]
    exact (StrMap.made w).kept fun o ho => blk_set ho (by have := blk_lt hvb; show w.heap.size ≠ vb; omega) _
  have hnW : W.ownsRow B 9 1 nv 0 [] := row_kept hnames fun g o hg ho => hMW.blk ho fun e => row_ne hnames hg hvb (by decide) e.symm
  have hfW : MapAt W fv F := hfm.kept fun b o e ho => hMW.blk ho fun e2 => by
    rcases hfm with ⟨h, _⟩ | ⟨b', h, hb'⟩
    · rw [h] at e; cases e
    · rw [h] at e; cases e; exact hb'.ne hvb e2.symm
  have hapW : fv ≠ .map (some sm) := by
    rcases hfm with ⟨h, _⟩ | ⟨b', h, hb'⟩
    · rw [h]; intro e; cases e
    · rw [h]; intro e; cases e; have := hb'.lt; omega
  have hMsz := hMW.size
  have c0 : W.cell? ⟨vb, 0, none⟩ = some (.map (some sm)) := by rw [cell_of_row _ _ _ _ _ _ hvW]; rfl
  have hf := StrMap.find Yba.underlying61 Yba.underlying9 (zero71 W) hsm k true
  rw [hk] at hf
  simp only [Option.getD, Option.isSome, if_true] at hf
  obtain ⟨X, hX⟩ : ∃ X, X = W.alloc (.cells #[.pointer none, .int .i64 0] 71) := ⟨_, rfl⟩
  have hMX : Moved W X (fun _ => False) := by rw [hX]; exact Moved.alloc _ _ _
  have hXsz := hMX.size
  have hvX := hMX.blk hvW id
  have d1 : X.cell? ⟨vb, 1, none⟩ = some nv := by rw [cell_of_row _ _ _ _ _ _ hvX]; rfl
  have d1' : (W.alloc (.cells #[.pointer none, .int .i64 0] 71)).cell? ⟨vb, 1, none⟩ = some nv := by rw [← hX]; exact d1
  have hnX : X.ownsRow B 9 1 nv 0 [] := row_kept hnW fun g o _ ho => hMX.blk ho id
  have hkn := keys_new (v := svOf p nl) hk
  clear hfm hnames hset hnW
  go_enter Yba.func29, Yba.ntmps29
  go_upto_region 2 with fail
  rw [← hW, ← hsme]
  have hsge : w.heap.size ≤ sm := Nat.le_of_eq hsme.symm
  clear hW hsme
  go_wp2_with (at_builtin; refine wpList_app1_at _ rfl _ _ 39 rfl B 9 _ 16 Yba.underlying39 Yba.info9 rfl nv 0 [] rfl ?hown (W.heap.size + 1) 1 (.string k) ?hx ?hcell rfl ?hA1 ?hA2 ?hA3 ?hK)
  case hown => rw [← hX]; exact row_kept hnX fun g o _ ho => blk_alloc ho _
  case hx => rfl
  case hA1 => unfold maxLen; omega
  case hA2 => omega
  case hA3 => simp only [World.size_alloc]; omega
  case hcell => rw [← hX, cell_of_row _ _ _ _ _ _ (blk_at (w := X) (b := W.heap.size + 1) (by rw [hX]; simp))]; rfl
  case hK =>
    intro g cap w1 hown hgrow hloc
    rw [← hX] at hgrow
    clear hX
    have hv1 : w1.heap[vb]? = some (.cells (vsCells (.map (some sm)) nv (.slice lp nl lc) st sg fv by_) 66) := blk_grown (blk_alloc hvX _) hgrow (fun e => row_ne hnX e.symm hvX (by decide) rfl)
    have e1 : w1.cell? ⟨vb, 1, none⟩ = some nv := by rw [cell_of_row _ _ _ _ _ _ hv1]; rfl
    have ef : w1.frozen? ⟨vb, 1, none⟩ = false := frozen_of_row w1 vb 1 _ 66 hv1
    obtain ⟨X2, hX2⟩ : ∃ X2, X2 = w1.setCell ⟨vb, 1, none⟩ (.slice (some ⟨g, 0, none⟩) (0 + 1) cap) := ⟨_, rfl⟩
    have hv2 : X2.heap[vb]? = some (.cells (vsCells (.map (some sm)) (.slice (some ⟨g, 0, none⟩) (0 + 1) cap) (.slice lp nl lc) st sg fv by_) 66) := by rw [hX2]; exact blk_same hv1 1 _
    have hM2 : Moved X X2 (fun b => b = vb ∨ nv.ownBlock = some b) := by
      rw [hX2]
      exact ((Moved.alloc X _ _).trans (Moved.of_grown hgrow) fun i h => .inl (.inr h)).trans (Moved.setCell _ _ _) fun i h => .inl (.inl h)
    have hsX : StrMap X sm [] := hsm.kept fun o ho => hMX.blk ho id
    have hs2 : StrMap X2 sm [] := hsX.kept fun o ho => hM2.blk ho (by
      rintro (e | e)
      · exact hsX.ne hvX e.symm
      · exact row_ne_map hnX e hsX rfl)
    have hg1 : g ≠ vb := by
      obtain ⟨cur, hc, _⟩ := own_blk hown
      exact ne_of_type hc hv1 (by decide)
    have hn2 : X2.ownsRow B 9 1 (.slice (some ⟨g, 0, none⟩) (0 + 1) cap) (put [] k (svOf p nl)).length ((put [] k (svOf p nl)).map keyV) := by
      have hh : (put [] k (svOf p nl)).length = 0 + 1 ∧ (put [] k (svOf p nl)).map keyV = [] ++ [.string k] := by rw [hkn]; simp [keyV]
      rw [hh.1, hh.2, hX2]
      exact own_keep hown fun o ho => blk_set ho hg1 _
    have hf2 : MapAt X2 fv F := (hfW.kept fun b o _ ho => hMX.blk ho id).kept fun b o e ho => hM2.blk ho (by
      rcases hfW with ⟨h, _⟩ | ⟨b', h, hb'⟩
      · rw [h] at e; cases e
      · rw [h] at e
        cases e
        have hb2 : StrMap X b F := hb'.kept fun o ho => hMX.blk ho id
        rintro (e | e)
        · exact hb2.ne hvX e.symm
        · exact row_ne_map hnX e hb2 rfl)
    have h20 : X2.cell? ⟨vb, 0, none⟩ = some (.map (some sm)) := by rw [cell_of_row _ _ _ _ _ _ hv2]; rfl
    have h22 : X2.cell? ⟨vb, 2, none⟩ = some (.slice lp nl lc) := by rw [cell_of_row _ _ _ _ _ _ hv2]; rfl
    obtain ⟨Y, Z, hYr, f5, hZr, hV, hM⟩ := set_tail vb B sm p nl k _ (.slice lp nl lc) st sg fv by_ [] F X2 hv2 hs2 hn2 hf2 hapW
    go_wp2
    rw [← hX2]
    clear hX2
    go_region
    go_wp2
    go_end0
    have hMw : Moved w X2 (fun b => b = vb ∨ nv.ownBlock = some b) := (hMW.mono fun b h => .inl h).trans ((hMX.mono fun _ h => h.elim).trans hM2 fun i h => .inl h) fun i h => .inl h
    refine ⟨rfl, _, _, hV, (hMw.mono ?_).trans hM ?_, ⟨sm, rfl, .inr (by omega)⟩, ?_⟩
    · rintro b (h | h)
      · exact .inl h
      · exact .inr (.inr (.inl h))
    · rintro b (rfl | h)
      · exact .inr (by omega)
      · exact .inl (.inr (.inr (.inr h)))
    · rcases hloc with h | h
      · exact .inl h.symm
      · exact .inr ⟨g, rfl, by omega⟩

end Go.Proofs.Ybulkexpby
