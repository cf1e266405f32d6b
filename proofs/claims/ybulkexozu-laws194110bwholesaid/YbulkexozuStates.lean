/- LawS194110BWhole: what lies in memory: the entries, the repository. -/
import Derived.Test.YbulkexozuKit
import Derived.Test.YbulkexozuWide
import Derived.Deep.MidRow
import Derived.Deep.WholeRow
import Derived.Deep.Draws
namespace Go.Proofs.Ybulkexozu
open Go.RowKit Go.PK Go.SM
set_option linter.unusedVariables false

/-- A load, a store by their run equations, at a plain region's list. -/
theorem wpList_load_eq {P : Program} {ops : Array Oper} {rest : List Oper} {op : Oper} {a : Act} {w : World} {Q : Exit → Act → World → Prop} {p v : Value} (hgd : op.guard = none) (ty : TypeId) (x : Operand) (ho : op.op = .load ty x)
    (hx : a.eval x = p) (hl : (Instr.loadAt ty p).run P w = .ok v w) (h : wpList P ops Q rest (a.put op.dst v) w) : wpList P ops Q (op :: rest) a w :=
  wpList_plain hgd fun _ hK => by
    unfold Oper.wp execOp
    simp only [ho, hx, Sem.run_bind, hl, Result.andThen_ok, Sem.run_pure]
    exact hK _ _ h
theorem wpList_store_eq {P : Program} {ops : Array Oper} {rest : List Oper} {op : Oper} {a : Act} {w w' : World} {Q : Exit → Act → World → Prop} {p v : Value} (hgd : op.guard = none) (ty : TypeId) (x y : Operand) (ho : op.op = .store ty x y)
    (hx : a.eval x = p) (hy : a.eval y = v) (hl : (Instr.storeAt ty p v).run P w = .ok () w') (h : wpList P ops Q rest (a.put op.dst undef) w') : wpList P ops Q (op :: rest) a w :=
  wpList_plain hgd fun _ hK => by
    unfold Oper.wp execOp
    simp only [ho, hx, hy, Sem.run_bind, hl, Result.andThen_ok, Sem.run_pure]
    exact hK _ _ h
theorem wpList_build_eq {P : Program} {ops : Array Oper} {rest : List Oper} {op : Oper} {a : Act} {w : World} {Q : Exit → Act → World → Prop} {vs : List (Nat × Value)} {v : Value} (hgd : op.guard = none) (ty : TypeId) (parts : Array (Nat × Operand)) (ho : op.op = .build ty parts)
    (hx' : (parts.toList.map fun p => (p.1, a.eval p.2)) = vs) (hl : (Instr.build ty vs.toArray).run P w = .ok v w) (h : wpList P ops Q rest (a.put op.dst v) w) : wpList P ops Q (op :: rest) a w :=
  wpList_plain hgd fun _ hK => by
    have hx : (parts.map fun (i, x) => (i, a.eval x)) = vs.toArray := by
      apply Array.toList_inj.1
      rw [Array.toList_map]
      exact hx'
    unfold Oper.wp execOp
    simp only [ho, hx, Sem.run_bind, hl, Result.andThen_ok, Sem.run_pure]
    exact hK _ _ h

def MapAt (w : World) (v : Value) (A : AL) : Prop := (v = .map none ∧ A = []) ∨ ∃ b, v = .map (some b) ∧ StrMap w b A
theorem MapAt.kept {w w' : World} {v : Value} {A : AL} (h : MapAt w v A) (hk : ∀ b o, v = .map (some b) → w.heap[b]? = some o → w'.heap[b]? = some o) : MapAt w' v A := by
  rcases h with h | ⟨b, rfl, h⟩
  · exact .inl h
  · exact .inr ⟨b, rfl, h.kept fun o ho => hk b o rfl ho⟩
theorem MapAt.find {w : World} {v : Value} {A : AL} (h : MapAt w v A) (s : ByteArray) :
    (Instr.lookup 48 v (.string s) true).run Yba.prog w = .ok (.tuple #[(SM.look A s).getD zhd, .bool (SM.look A s).isSome]) w := by
  rcases h with ⟨rfl, rfl⟩ | ⟨b, rfl, h⟩
  · have hf : (Instr.findKey 9 (.string s) []).run Yba.prog w = .ok none w := MapKept.run_findKey Yba.underlying9 (find_at s [] [] 0 rfl)
    simp [Instr.lookup, run_underlying Yba.underlying48, MapKept.run_checkKey Yba.underlying9 (k := .string s) trivial, hf, Result.andThen, SM.look]
    rfl
  · rw [h.find Yba.underlying48 Yba.underlying9 (zero30 w) s true]
    rfl
theorem MapAt.len {w : World} {v : Value} {A : AL} {ty : TypeId} (h : MapAt w v A) : (Builtin.len_ #[48] ty #[v]).run Yba.prog w = .ok (goInt A.length) w := by
  rcases h with ⟨rfl, rfl⟩ | ⟨b, rfl, h⟩
  · simp [Builtin.len_, run_underlying Yba.underlying48, Result.andThen]
  · exact h.len Yba.underlying48

/-- What a step leaves as it was: all old blocks but those of M. -/
structure Moved (w w' : World) (M : Nat → Prop) : Prop where
  os : w'.os = w.os
  tape : w'.tape = w.tape
  output : w'.output = w.output
  size : w.heap.size ≤ w'.heap.size
  block : ∀ b, b < w.heap.size → ¬ M b → w'.heap[b]? = w.heap[b]?

theorem Moved.refl (w : World) (M : Nat → Prop) : Moved w w M := ⟨rfl, rfl, rfl, Nat.le_refl _, fun _ _ _ => rfl⟩
theorem Moved.trans {a b c : World} {M : Nat → Prop} (h : Moved a b M) {M' : Nat → Prop} (k : Moved b c M') (hm : ∀ i, M' i → M i ∨ a.heap.size ≤ i) : Moved a c M :=
  ⟨k.os.trans h.os, k.tape.trans h.tape, k.output.trans h.output, Nat.le_trans h.size k.size, fun i hi hn => by
    rw [k.block i (Nat.lt_of_lt_of_le hi h.size) (fun hM => (hm i hM).elim hn (fun h1 => by omega)), h.block i hi hn]⟩
theorem Moved.blk {w w' : World} {M : Nat → Prop} (h : Moved w w' M) {b : Nat} {o : Obj} (hb : w.heap[b]? = some o) (hn : ¬ M b) : w'.heap[b]? = some o := by rw [h.block b (blk_lt hb) hn]; exact hb
theorem Moved.below {w w' : World} {M : Nat → Prop} (h : Moved w w' M) {B : Nat} (hB : B ≤ w.heap.size) (hm : ∀ b, M b → B ≤ b) : Below B w w' := ⟨h.os, h.tape, h.output, h.size, fun b hb => h.block b (by omega) (fun hM => by have := hm b hM; omega)⟩
theorem Moved.alloc (w : World) (o : Obj) (M : Nat → Prop) : Moved w (w.alloc o) M := ⟨rfl, rfl, rfl, by simp, fun b hb _ => Below.heap_alloc _ _ _ hb⟩
theorem Moved.setCell (w : World) (a : Addr) (v : Value) : Moved w (w.setCell a v) (fun b => b = a.block) := ⟨rfl, rfl, rfl, by simp, fun b _ hn => Below.heap_setCell _ _ _ _ hn⟩

def repoCells (st : Int) (ob q1 q2 : Nat) : Array Value := #[.pointer none, .int .i32 st, .int .u32 0, .map (some ob), .map (some q1), .int .u64 16384, .int .u64 1, .map (some q2), .int .i32 0, .int .u32 0]

structure RepoAt (w : World) (B N rb ob q1 q2 : Nat) (st : Int) (A : AL) (S : ByteArray → AL) : Prop where
  blk : w.heap[rb]? = some (.cells (repoCells st ob q1 q2) 44)
  outer : StrMap w ob A
  isMap : ∀ k v, SM.look A k = some v → ∃ m, v = .map (some m) ∧ m ≠ ob ∧ B ≤ m ∧ m < N
  tabs : ∀ k, MapAt w ((SM.look A k).getD (.map none)) (S k)
  inj : ∀ k k' m, SM.look A k = some (.map (some m)) → SM.look A k' = some (.map (some m)) → k = k'
  lo : B ≤ rb ∧ B ≤ ob
  hi : rb < N ∧ ob < N

section
variable {w w' : World} {B N rb ob q1 q2 : Nat} {st : Int} {A : AL} {S : ByteArray → AL}

theorem RepoAt.atMap (h : RepoAt w B N rb ob q1 q2 st A S) {k : ByteArray} {b : Nat} (e : (SM.look A k).getD (.map none) = .map (some b)) : SM.look A k = some (.map (some b)) ∧ b ≠ ob ∧ B ≤ b ∧ b < N := by
  cases hl : SM.look A k with
  | none => rw [hl] at e; cases e
  | some v =>
    obtain ⟨m, rfl, h1, h2, h3⟩ := h.isMap k v hl
    rw [hl] at e
    cases e
    exact ⟨rfl, h1, h2, h3⟩
theorem RepoAt.keep (h : RepoAt w B N rb ob q1 q2 st A S) (hk : ∀ b o, B ≤ b → b < N → w.heap[b]? = some o → w'.heap[b]? = some o) : RepoAt w' B N rb ob q1 q2 st A S :=
  ⟨hk _ _ h.lo.1 h.hi.1 h.blk, h.outer.kept fun o ho => hk _ _ h.lo.2 h.hi.2 ho, h.isMap, fun k => (h.tabs k).kept fun b o e ho => let ⟨_, _, h2, h3⟩ := h.atMap e; hk b o h2 h3 ho, h.inj, h.lo, h.hi⟩
theorem RepoAt.below (h : RepoAt w B N rb ob q1 q2 st A S) (hb : Below N w w') : RepoAt w' B N rb ob q1 q2 st A S := h.keep fun b o _ h2 ho => blk_below ho hb h2
theorem RepoAt.drew (h : RepoAt w B N rb ob q1 q2 st A S) : RepoAt w.drew B N rb ob q1 q2 st A S := h.keep fun _ _ _ _ ho => ho
theorem RepoAt.drewN (h : RepoAt w B N rb ob q1 q2 st A S) (m : Nat) : RepoAt (w.drewN m) B N rb ob q1 q2 st A S := h.keep fun _ _ _ _ ho => ho
theorem RepoAt.wide (h : RepoAt w B N rb ob q1 q2 st A S) {N' : Nat} (hn : N ≤ N') : RepoAt w B N' rb ob q1 q2 st A S :=
  ⟨h.blk, h.outer, fun k v e => let ⟨m, h1, h2, h3, h4⟩ := h.isMap k v e; ⟨m, h1, h2, h3, by omega⟩, h.tabs, h.inj, h.lo, ⟨by have := h.hi.1; omega, by have := h.hi.2; omega⟩⟩
theorem RepoAt.alloc (h : RepoAt w B N rb ob q1 q2 st A S) (o : Obj) : RepoAt (w.alloc o) B N rb ob q1 q2 st A S := h.keep fun _ _ _ _ ho => blk_alloc ho o

theorem RepoAt.cell1 (h : RepoAt w B N rb ob q1 q2 st A S) : w.cell? ⟨rb, 1, none⟩ = some (.int .i32 st) := by rw [cell_of_row _ _ _ _ _ _ h.blk]; rfl
theorem RepoAt.cell3 (h : RepoAt w B N rb ob q1 q2 st A S) : w.cell? ⟨rb, 3, none⟩ = some (.map (some ob)) := by rw [cell_of_row _ _ _ _ _ _ h.blk]; rfl
theorem RepoAt.free (h : RepoAt w B N rb ob q1 q2 st A S) (j : Nat) : w.frozen? ⟨rb, j, none⟩ = false := frozen_of_row w rb j _ 44 h.blk
theorem RepoAt.ne_outer (h : RepoAt w B N rb ob q1 q2 st A S) : rb ≠ ob := h.outer.ne h.blk
theorem RepoAt.lock (h : RepoAt w B N rb ob q1 q2 st A S) (s : Int) : RepoAt (w.setCell ⟨rb, 1, none⟩ (.int .i32 s)) B N rb ob q1 q2 s A S := by
  refine ⟨?_, ?_, h.isMap, fun k => ?_, h.inj, h.lo, h.hi⟩
  · have := blk_same h.blk 1 (.int .i32 s)
    exact this
  · exact h.outer.kept fun o ho => blk_set ho h.ne_outer.symm _
  · refine (h.tabs k).kept fun b o e ho => blk_set ho ?_ _
    rcases h.tabs k with ⟨e', _⟩ | ⟨b', e', hb'⟩
    · rw [e'] at e; cases e
    · rw [e'] at e; cases e; exact (hb'.ne h.blk).symm
theorem RepoAt.find (h : RepoAt w B N rb ob q1 q2 st A S) (k : ByteArray) : (Instr.lookup 39 (.map (some ob)) (.string k) false).run Yba.prog w = .ok ((SM.look A k).getD (.map none)) w := by
  rw [h.outer.find Yba.underlying39 Yba.underlying9 (zero48 w) k false]
  rfl
theorem RepoAt.len (h : RepoAt w B N rb ob q1 q2 st A S) {ty : TypeId} : (Builtin.len_ #[39] ty #[.map (some ob)]).run Yba.prog w = .ok (goInt A.length) w := h.outer.len Yba.underlying39
end

/-- A database more. -/
theorem RepoAt.newdb {w : World} {B N rb ob q1 q2 m : Nat} {st : Int} {A : AL} {S : ByteArray → AL} (h : RepoAt w B N rb ob q1 q2 st A S) (k : ByteArray) (hk : SM.look A k = none) (hm : StrMap w m []) (hN : N ≤ m) (hB : B ≤ N) :
    ∃ Y, (Instr.mapUpdate 39 (.map (some ob)) (.string k) (.map (some m))).run Yba.prog w = .ok () Y ∧ RepoAt Y B (m + 1) rb ob q1 q2 st (put A k (.map (some m))) S ∧ w.grownBy Y (some ob) ∧ Y.heap.size = w.heap.size := by
  obtain ⟨Y, h1, h2, h3, h4⟩ := h.outer.store Yba.underlying39 Yba.underlying9 k (.map (some m))
  refine ⟨Y, h1, ⟨?_, h2, ?_, ?_, ?_, h.lo, ⟨by have := h.hi.1; omega, by have := h.hi.2; omega⟩⟩, h3, h4⟩
  · exact blk_grown h.blk h3 (by simp; exact h.ne_outer)
  · intro k' v e
    by_cases hkk : k = k'
    · subst hkk
      rw [look_put_same] at e
      cases e
      have := h.hi.2
      exact ⟨m, rfl, by omega, by omega, by omega⟩
    · rw [look_put_other _ _ hkk] at e
      obtain ⟨m', h5, h6, h7, h8⟩ := h.isMap k' v e
      exact ⟨m', h5, h6, h7, by omega⟩
  · intro k'
    by_cases hkk : k = k'
    · subst hkk
      rw [look_put_same]
      have hS : S k = [] := by
        have := h.tabs k
        rw [hk] at this
        rcases this with ⟨_, e⟩ | ⟨b, e, _⟩
        · exact e
        · cases e
      rw [hS]
      exact .inr ⟨m, rfl, hm.kept fun o ho => blk_grown ho h3 (by simp; have := h.hi.2; omega)⟩
    · rw [look_put_other _ _ hkk]
      exact (h.tabs k').kept fun b o e ho => blk_grown ho h3 (by simp; exact (h.atMap e).2.1)
  · intro k1 k2 m' e1 e2
    by_cases h1' : k = k1
    · by_cases h2' : k = k2
      · exact h1'.symm.trans h2'
      · subst h1'
        rw [look_put_same] at e1
        rw [look_put_other _ _ h2'] at e2
        cases e1
        obtain ⟨m'', h5, _, _, h8⟩ := h.isMap k2 _ e2
        cases h5
        omega
    · by_cases h2' : k = k2
      · subst h2'
        rw [look_put_same] at e2
        rw [look_put_other _ _ h1'] at e1
        cases e2
        obtain ⟨m'', h5, _, _, h8⟩ := h.isMap k1 _ e1
        cases h5
        omega
      · rw [look_put_other _ _ h1'] at e1
        rw [look_put_other _ _ h2'] at e2
        exact h.inj k1 k2 m' e1 e2

/-- A branch is set. -/
theorem RepoAt.setbr {w : World} {B N rb ob q1 q2 m : Nat} {st : Int} {A : AL} {S : ByteArray → AL} (h : RepoAt w B N rb ob q1 q2 st A S) (e : Ent) (he : e.only = false) (hk : SM.look A e.db = some (.map (some m))) :
    ∃ Y, (Instr.mapUpdate 48 (.map (some m)) (.string e.br) e.hd).run Yba.prog w = .ok () Y ∧ RepoAt Y B N rb ob q1 q2 st A (upd S e) ∧ w.grownBy Y (some m) ∧ Y.heap.size = w.heap.size := by
  have ht := h.tabs e.db
  rw [hk] at ht
  rcases ht with ⟨e', _⟩ | ⟨b, e', hb⟩
  · cases e'
  cases e'
  obtain ⟨Y, h1, h2, h3, h4⟩ := hb.store Yba.underlying48 Yba.underlying9 e.br e.hd
  obtain ⟨m', hm', hne, _, _⟩ := h.isMap _ _ hk
  cases hm'
  refine ⟨Y, h1, ⟨?_, ?_, h.isMap, ?_, h.inj, h.lo, h.hi⟩, h3, h4⟩
  · exact blk_grown h.blk h3 (by simp; exact hb.ne h.blk)
  · exact h.outer.kept fun o ho => blk_grown ho h3 (by simp; exact hne.symm)
  · intro k
    by_cases hkk : k = e.db
    · subst hkk
      rw [hk]
      have : upd S e e.db = put (S e.db) e.br e.hd := by simp [upd, he]
      rw [this]
      exact .inr ⟨m, rfl, h2⟩
    · have : upd S e k = S k := by simp [upd, hkk]
      rw [this]
      refine (h.tabs k).kept fun b o e' ho => blk_grown ho h3 ?_
      simp
      rintro rfl
      exact hkk (h.inj _ _ _ (h.atMap e').1 hk)

/-- The entries that came in. -/
def EntAt (w : World) (a : Option Addr) (n : Nat) (E : Nat → Ent) : Prop :=
  ∀ i, i < n → ∃ b o, a = some ⟨b, o, none⟩ ∧ b < w.heap.size ∧ w.rangeAt b (o + i * 43) (E i).cells ∧ (E i).Ok

theorem range_below {B : Nat} {w x : World} {b o : Nat} {cs : List Value} (h : w.rangeAt b o cs) (hb : Below B w x) (hl : b < B) : x.rangeAt b o cs := fun j v hv => by
  rw [hb.cell (p := ⟨b, o + j, none⟩) hl]; exact h j v hv
theorem range_part {w : World} {b o : Nat} {cs : List Value} (h : w.rangeAt b o cs) (k n : Nat) : w.rangeAt b (o + k) ((cs.drop k).take n) := fun j v hv => by
  rw [List.getElem?_take] at hv
  split at hv
  · rw [List.getElem?_drop] at hv
    rw [Nat.add_assoc]
    exact h _ _ hv
  · cases hv
theorem range_block {w : World} {b : Nat} {C : Array Value} {t : TypeId} {fr : Nat × Nat} (h : w.heap[b]? = some (.cells C t fr)) : w.rangeAt b 0 C.toList := fun j v hv => by
  rw [cell_of_row w b (0 + j) C t fr h, Nat.zero_add]
  simpa using hv
theorem Ent.Ok.len {e : Ent} (h : e.Ok) : e.cells.length = 43 := by simp [Ent.cells, h.cm, h.wk]
theorem Ent.Ok.one {e : Ent} (h : e.Ok) : ∀ v ∈ e.cells, v.oneCell' = true := by
  intro v hv
  simp only [Ent.cells, List.mem_cons, List.mem_append, List.mem_nil_iff, or_false] at hv
  rcases hv with rfl | rfl | hv | hv | rfl
  · rfl
  · rfl
  · exact h.bc.one v hv
  · exact h.bw.one v hv
  · rfl
theorem Ent.Ok.part2 {e : Ent} (h : e.Ok) : (e.cells.drop 2).take 20 = e.cm := by
  simp only [Ent.cells, List.drop_succ_cons, List.drop_zero]
  rw [List.take_append_of_le_length (by rw [h.cm]; exact Nat.le_refl _)]
  exact List.take_of_length_le (by rw [h.cm]; exact Nat.le_refl _)
theorem Ent.Ok.part22 {e : Ent} (h : e.Ok) : (e.cells.drop 22).take 20 = e.wk := by
  have : e.cells.drop 22 = e.wk ++ [.bool e.only] := by
    show (e.cm ++ (e.wk ++ [Value.bool e.only])).drop 20 = _
    rw [List.drop_append_of_le_length (by rw [h.cm]; exact Nat.le_refl _), List.drop_of_length_le (by rw [h.cm]; exact Nat.le_refl _), List.nil_append]
  rw [this, List.take_append_of_le_length (by rw [h.wk]; exact Nat.le_refl _)]
  exact List.take_of_length_le (by rw [h.wk]; exact Nat.le_refl _)
theorem Ent.Ok.at42 {e : Ent} (h : e.Ok) : e.cells[42]? = some (.bool e.only) := by
  simp [Ent.cells, h.cm, h.wk]

/-- What the walk asks of an entry at ⟨b, o⟩. -/
structure EntIs (w : World) (b o : Nat) (e : Ent) : Prop where
  c0 : w.cell? ⟨b, o, none⟩ = some (.string e.db)
  c1 : w.cell? ⟨b, o + 1, none⟩ = some (.string e.br)
  c42 : w.cell? ⟨b, o + 42, none⟩ = some (.bool e.only)
  r2 : w.rangeAt b (o + 2) e.cm
  r22 : w.rangeAt b (o + 22) e.wk
  l2 : (Instr.loadAt 25 (.pointer (some ⟨b, o + 2, none⟩))).run Yba.prog w = .ok (.agg e.cm.toArray) w
  l22 : (Instr.loadAt 25 (.pointer (some ⟨b, o + 22, none⟩))).run Yba.prog w = .ok (.agg e.wk.toArray) w
  l : (Instr.loadAt 27 (.pointer (some ⟨b, o, none⟩))).run Yba.prog w = .ok (.agg e.cells.toArray) w
theorem entIs_of {w : World} {b o : Nat} {e : Ent} (h : w.rangeAt b o e.cells) (ok : e.Ok) : EntIs w b o e := by
  have r2 : w.rangeAt b (o + 2) e.cm := by have := range_part h 2 20; rwa [ok.part2] at this
  have r22 : w.rangeAt b (o + 22) e.wk := by have := range_part h 22 20; rwa [ok.part22] at this
  exact ⟨h 0 _ rfl, h 1 _ rfl, h 42 _ ok.at42, r2, r22,
    run_loadAt_mid w b _ 25 _ _ r2 Yba.underlying25 rfl (by rw [ok.cm]; exact size25),
    run_loadAt_mid w b _ 25 _ _ r22 Yba.underlying25 rfl (by rw [ok.wk]; exact size25),
    run_loadAt_mid w b _ 27 _ _ h Yba.underlying27 rfl (by rw [ok.len]; exact size27)⟩
end Go.Proofs.Ybulkexozu
