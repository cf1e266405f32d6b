/- Append of one element of several cells, to a row of the call's own: at a plain region's list, and as one step of a region that draws. Rows of k cells. (Own laws, any program.) -/
import Derived.Test.YbulkexpecFmtKit
import Derived.Laws.CopyOwn
import Derived.Maps.AppendAt
namespace Go.PK
open Go.RowKit

theorem step_appk {P : Program} {ops : Array Oper} {o : Oper} {a : Act} {w : World} {K : Act → World → Prop} {Q : Exit → Act → World → Prop} {E : Prop}
    (hgd : o.guard = none) (s x : Operand) (t : TypeId) (ho : o.op = .call { callee := .builtin .append, args := #[s, x], argTypes := #[t, t] })
    (base : Nat) (e : TypeId) (z : Value) (size bytes : Nat) (ht : P.underlying t = some (.slice e)) (hi : (P.info? e).map (fun i => (i.zero, i.size, i.bytes)) = some (some z, size, bytes)) (hz : z.cells.size = size) (h0 : 0 < size)
    (v : Value) (n : Nat) (xs : List Value) (hs : a.eval s = v) (hown : w.ownsRow base e size v n xs)
    (b c : Nat) (us : List Value) (hx : a.eval x = .slice (some ⟨b, 0, none⟩) 1 c) (hl : us.length = size) (hcell : ∀ j u, us[j]? = some u → w.cell? ⟨b, j, none⟩ = some u) (h1 : ∀ u ∈ us, u.oneCell' = true)
    (h63 : n + 1 ≤ maxLen) (hbytes : (n + 1) * bytes ≤ 140737488355328) (hbase : base ≤ w.heap.size)
    (h : ∀ (g' cap' : Nat) (w' : World), w'.ownsRow base e size (.slice (some ⟨g', 0, none⟩) (n + 1) cap') (n + 1) (xs ++ us) → w.grownBy w' v.ownBlock → (v.ownBlock = some g' ∨ g' = w.heap.size) → K (a.put o.dst (.slice (some ⟨g', 0, none⟩) (n + 1) cap')) w') :
    if Region.wanted o (yielded ops a.tmps) = true then Oper.wp P o a w K Q else E := by
  have hw : Region.wanted o (yielded ops a.tmps) = true := by simp [Region.wanted, hgd]
  rw [if_pos hw]
  obtain ⟨i, hi, hz0, hz1, hz2⟩ := info_parts hi
  obtain ⟨v', w', hr, h2, h3, h4, h5⟩ := run_append_own_at (P := P) w base t o.type e i z size bytes ht hi hz0 hz1 hz2 hz h0 v n xs hown ⟨b, 0, none⟩ 1 c us (by omega) (fun j u hj => by
    have := hcell j u hj
    rw [show (⟨b, 0, none⟩ : Addr).add j = ⟨b, j, none⟩ by unfold Addr.add; split <;> simp_all]
    exact this) h1 h63 hbytes hbase
  obtain ⟨g, cap, rfl⟩ := Joins.ownsRow_form h2 (by omega)
  unfold Oper.wp execOp
  simp only [ho, resolve, invoke, builtin, Sem.run_bind, Sem.run_pure, Result.andThen_ok, List.map_toArray, List.map_cons, List.map_nil, hs, hx, hr]
  exact h g cap w' h2 h3 (h5.elim (fun e => .inl e.symm) (fun e => .inr (by simpa [Value.ownBlock] using e)))

theorem wpList_appk {P : Program} (w : World) {ops : Array Oper} {rest : List Oper} {o : Oper} {a : Act} {Q : Exit → Act → World → Prop}
    (hgd : o.guard = none) (s x : Operand) (t : TypeId) (ho : o.op = .call { callee := .builtin .append, args := #[s, x], argTypes := #[t, t] })
    (base : Nat) (e : TypeId) (z : Value) (size bytes : Nat) (ht : P.underlying t = some (.slice e)) (hi : (P.info? e).map (fun i => (i.zero, i.size, i.bytes)) = some (some z, size, bytes)) (hz : z.cells.size = size) (h0 : 0 < size)
    (v : Value) (n : Nat) (xs : List Value) (hs : a.eval s = v) (hown : w.ownsRow base e size v n xs)
    (b c : Nat) (us : List Value) (hx : a.eval x = .slice (some ⟨b, 0, none⟩) 1 c) (hl : us.length = size) (hcell : ∀ j u, us[j]? = some u → w.cell? ⟨b, j, none⟩ = some u) (h1 : ∀ u ∈ us, u.oneCell' = true)
    (h63 : n + 1 ≤ maxLen) (hbytes : (n + 1) * bytes ≤ 140737488355328) (hbase : base ≤ w.heap.size)
    (h : ∀ (g' cap' : Nat) (w' : World), w'.ownsRow base e size (.slice (some ⟨g', 0, none⟩) (n + 1) cap') (n + 1) (xs ++ us) → w.grownBy w' v.ownBlock → (v.ownBlock = some g' ∨ g' = w.heap.size) → wpList P ops Q rest (a.put o.dst (.slice (some ⟨g', 0, none⟩) (n + 1) cap')) w') :
    wpList P ops Q (o :: rest) a w := by
  obtain ⟨i, hi, hz0, hz1, hz2⟩ := info_parts hi
  refine wpList_append_own_at w hgd s x t ho base e i z size bytes ht hi hz0 hz1 hz2 hz h0 v n xs hs hown ⟨b, 0, none⟩ 1 c us hx (by omega) ?_ h1 h63 hbytes hbase ?_
  · intro j u hj
    have := hcell j u hj
    rw [show (⟨b, 0, none⟩ : Addr).add j = ⟨b, j, none⟩ by unfold Addr.add; split <;> simp_all]
    exact this
  · intro v' w' h2 h3 h4 h5
    obtain ⟨g, cap, rfl⟩ := Joins.ownsRow_form h2 (by omega)
    exact h g cap w' h2 h3 (h5.elim (fun e => .inl e.symm) (fun e => .inr (by simpa [Value.ownBlock] using e)))

theorem cells_of_block {w : World} {b : Nat} {cs : Array Value} {t : TypeId} (h : w.heap[b]? = some (.cells cs t)) : ∀ j u, cs.toList[j]? = some u → w.cell? ⟨b, j, none⟩ = some u := fun j u hj => by
  rw [cell_of_row _ _ _ _ _ _ h]
  simpa using hj
/-- What a step leaves as it was: all old blocks but those of M. -/
structure Moved (w w' : World) (M : Nat → Prop) : Prop where
  os : w'.os = w.os
  tape : w'.tape = w.tape
  output : w'.output = w.output
  size : w.heap.size ≤ w'.heap.size
  block : ∀ b, b < w.heap.size → ¬ M b → w'.heap[b]? = w.heap[b]?

theorem Moved.refl (w : World) (M : Nat → Prop) : Moved w w M := ⟨rfl, rfl, rfl, Nat.le_refl _, fun _ _ _ => rfl⟩
theorem Moved.trans {a b c : World} {M : Nat → Prop} (h : Moved a b M) {M' : Nat → Prop} (k : Moved b c M') (hm : ∀ i, M' i → M i ∨ a.heap.size ≤ i) : Moved a c M :=
  ⟨k.os.trans h.os, k.tape.trans h.tape, k.output.trans h.output, Nat.le_trans h.size k.size, fun i hi hn => by
    rw [k.block i (Nat.lt_of_lt_of_le hi h.size) (fun hM => (hm i hM).elim hn (fun h1 => by omega)), h.block i hi hn]⟩
theorem Moved.blk {w w' : World} {M : Nat → Prop} (h : Moved w w' M) {b : Nat} {o : Obj} (hb : w.heap[b]? = some o) (hn : ¬ M b) : w'.heap[b]? = some o := by rw [h.block b (blk_lt hb) hn]; exact hb
theorem Moved.below {w w' : World} {M : Nat → Prop} (h : Moved w w' M) {B : Nat} (hB : B ≤ w.heap.size) (hm : ∀ b, M b → B ≤ b) : Below B w w' := ⟨h.os, h.tape, h.output, h.size, fun b hb => h.block b (by omega) (fun hM => by have := hm b hM; omega)⟩
theorem Moved.alloc (w : World) (o : Obj) (M : Nat → Prop) : Moved w (w.alloc o) M := ⟨rfl, rfl, rfl, by simp, fun b hb _ => Below.heap_alloc _ _ _ hb⟩
theorem Moved.setCell (w : World) (a : Addr) (v : Value) : Moved w (w.setCell a v) (fun b => b = a.block) := ⟨rfl, rfl, rfl, by simp, fun b _ hn => Below.heap_setCell _ _ _ _ hn⟩

theorem Moved.of_grown {w w' : World} {row : Option Nat} (h : w.grownBy w' row) : Moved w w' (fun b => row = some b) := ⟨h.os, h.tape, h.output, h.size, fun b hb hn => h.block b hb (fun e => hn e.symm)⟩
theorem Moved.of_below {B : Nat} {w w' : World} (h : Below B w w') : Moved w w' (fun b => B ≤ b) := ⟨h.os, h.tape, h.output, h.size, fun b hb hn => h.block b (by omega)⟩
theorem Moved.drew {w w' : World} {M : Nat → Prop} (h : Moved w w' M) : Moved w w'.drew M := ⟨h.os, h.tape, h.output, h.size, h.block⟩
theorem Moved.cell {w w' : World} {M : Nat → Prop} (h : Moved w w' M) {b j : Nat} {v : Value} (hc : w.cell? ⟨b, j, none⟩ = some v) (hn : ¬ M b) : w'.cell? ⟨b, j, none⟩ = some v := by
  rw [World.cell?_of_block (w := w) (h.block b (World.block_lt_of_cell? w _ hc) hn)]; exact hc
end Go.PK
