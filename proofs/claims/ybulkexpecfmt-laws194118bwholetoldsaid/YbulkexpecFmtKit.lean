/- Small laws of my own, over any program: blocks behind steps; make and append of one element. -/
import Derived.WalkKit
import Derived.WalkSpells
import Derived.WalkLawsBesides
import Derived.Outline
import Derived.OneCell
import Derived.LaidEqlPtr
import Derived.Deep.RegionLaw
import Derived.Deep.DeepMust
import Derived.Lib.SmallJoins
namespace Go.PK
open Go.RowKit

/-- n copies of a value, shut to the walk. -/
def rep (n : Nat) (z : Value) : Array Value := Array.replicate n z
theorem rep_size (n : Nat) (z : Value) : (rep n z).size = n := by simp [rep]
theorem rep_get (n : Nat) (z : Value) (i : Nat) (h : i < n) : (rep n z)[i]? = some z := by simp [rep, h]
theorem made_one (z : Value) (n : Nat) : madeCells #[z] n = rep n z := by
  apply Array.toList_inj.1
  rw [toList_madeCells_one]; simp [rep]

theorem make_any {P : Program} {t e : TypeId} {z : Value} {sz b : Nat} (ht : P.underlying t = some (.slice e)) (hi : (P.info? e).map (fun i => (i.zero, i.size, i.bytes)) = some (some z, sz, b))
    (n : Nat) (hb : b * n ≤ 281474976710656) (h63 : n ≤ 9223372036854775807) (w : World) :
    (Instr.makeSlice t (.int .i64 (n : Int)) (.int .i64 (n : Int))).run P w = .ok (.slice (some ⟨w.heap.size, 0, none⟩) n n) (w.alloc (.cells (madeCells z.cells (n * sz)) e)) := by
  obtain ⟨i, hi, hz0, hz1, hz2⟩ := info_parts hi
  have hb' : (i.bytes : Int) * (n : Int) ≤ 281474976710656 := by
    rw [hz2]
    have h : ((b * n : Nat) : Int) ≤ 281474976710656 := by omega
    rwa [Int.natCast_mul] at h
  have := run_make (P := P) w t e i z ht hi hz0 .i64 .i64 n n (by omega) (Int.le_refl _) hb' (by omega)
  rw [this, hz1]
  simp

/-- 'make([]T, n)', T of one cell. -/
theorem make_one {P : Program} {t e : TypeId} {z : Value} {b : Nat} (ht : P.underlying t = some (.slice e)) (hi : (P.info? e).map (fun i => (i.zero, i.size, i.bytes)) = some (some z, 1, b)) (hz : z.cells = #[z])
    (n : Nat) (hb : b * n ≤ 281474976710656) (h63 : n ≤ 9223372036854775807) (w : World) :
    (Instr.makeSlice t (.int .i64 (n : Int)) (.int .i64 (n : Int))).run P w = .ok (.slice (some ⟨w.heap.size, 0, none⟩) n n) (w.alloc (.cells (rep n z) e)) := by
  rw [make_any ht hi n hb h63 w, hz, Nat.mul_one, made_one]

/-! ### a block behind a step -/
theorem blk_lt {w : World} {b : Nat} {o : Obj} (h : w.heap[b]? = some o) : b < w.heap.size := (Array.getElem?_eq_some_iff.1 h).1
theorem blk_alloc {w : World} {b : Nat} {o : Obj} (h : w.heap[b]? = some o) (x : Obj) : (w.alloc x).heap[b]? = some o := by
  rw [Below.heap_alloc _ _ _ (blk_lt h)]; exact h
theorem blk_new (w : World) (x : Obj) : (w.alloc x).heap[w.heap.size]? = some x := by
  show (w.heap.push x)[w.heap.size]? = _; simp
theorem blk_at {w : World} {x : Obj} {b : Nat} (hb : b = w.heap.size) : (w.alloc x).heap[b]? = some x := by subst hb; exact blk_new w x
theorem blk_set {w : World} {b : Nat} {o : Obj} (h : w.heap[b]? = some o) {a : Addr} (hne : b ≠ a.block) (v : Value) : (w.setCell a v).heap[b]? = some o := by
  rw [Below.heap_setCell _ _ _ _ hne]; exact h
theorem blk_same {w : World} {b : Nat} {cs : Array Value} {t : TypeId} (h : w.heap[b]? = some (.cells cs t)) (i : Nat) (v : Value) : (w.setCell ⟨b, i, none⟩ v).heap[b]? = some (.cells (cs.setIfInBounds i v) t) :=
  heap_setCell_same w b i cs t v h
theorem blk_grown {w w' : World} {b : Nat} {o : Obj} {row : Option Nat} (h : w.heap[b]? = some o) (hg : w.grownBy w' row) (hne : some b ≠ row) : w'.heap[b]? = some o := by
  rw [hg.block b (blk_lt h) hne]; exact h
theorem blk_below {w w' : World} {B b : Nat} {o : Obj} (h : w.heap[b]? = some o) (hb : Below B w w') (hlt : b < B) : w'.heap[b]? = some o := by
  rw [hb.block b hlt]; exact h
theorem ne_of_type {w : World} {b g : Nat} {cs cs' : Array Value} {t t' : TypeId} {m m' : Nat × Nat} (h : w.heap[b]? = some (.cells cs t m)) (h' : w.heap[g]? = some (.cells cs' t' m')) (hne : t ≠ t') : b ≠ g := by
  rintro rfl
  rw [h] at h'
  simp only [Option.some.injEq, Obj.cells.injEq] at h'
  exact hne h'.2.1
theorem own_blk {w : World} {B e size g n cap : Nat} {xs : List Value} (h : w.ownsRow B e size (.slice (some ⟨g, 0, none⟩) n cap) n xs) : ∃ cur, w.heap[g]? = some (.cells cur e) ∧ B ≤ g ∧ n ≤ cap ∧ cap ≤ maxLen ∧ cur.size = cap * size ∧ cur.toList.take (n * size) = xs := by
  rcases h.2 with ⟨h', _⟩ | ⟨g', cap', cur, h', hb, hg, h1, h2, h3, h4⟩
  · simp at h'
  · simp only [Value.slice.injEq, Option.some.injEq, Addr.mk.injEq, and_true, true_and] at h'
    obtain ⟨rfl, rfl⟩ := h'
    exact ⟨cur, hg, hb, h1, h2, h3, h4⟩
theorem own_mk {w : World} {B e size g n cap : Nat} {cur : Array Value} (h : w.heap[g]? = some (.cells cur e)) (hb : B ≤ g) (h1 : n ≤ cap) (h2 : cap ≤ maxLen) (h3 : cur.size = cap * size) : w.ownsRow B e size (.slice (some ⟨g, 0, none⟩) n cap) n (cur.toList.take (n * size)) := by
  refine ⟨?_, .inr ⟨g, cap, cur, rfl, hb, h, h1, h2, h3, rfl⟩⟩
  rw [List.length_take, Array.length_toList, h3]
  exact Nat.min_eq_left (Nat.mul_le_mul_right _ h1)
theorem own_keep {w w' : World} {B e size g n cap : Nat} {xs : List Value} (h : w.ownsRow B e size (.slice (some ⟨g, 0, none⟩) n cap) n xs) (hk : ∀ o, w.heap[g]? = some o → w'.heap[g]? = some o) : w'.ownsRow B e size (.slice (some ⟨g, 0, none⟩) n cap) n xs := by
  obtain ⟨cur, hg, hb, h1, h2, h3, h4⟩ := own_blk h
  exact ⟨h.1, .inr ⟨g, cap, cur, rfl, hb, hk _ hg, h1, h2, h3, h4⟩⟩

theorem cells3 {w : World} {b : Nat} {x y z : Value} {t : TypeId} (h : w.heap[b]? = some (.cells #[x, y, z] t)) :
    w.cell? ⟨b, 0, none⟩ = some x ∧ w.cell? ⟨b, 1, none⟩ = some y ∧ w.cell? ⟨b, 2, none⟩ = some z ∧ ∀ j, w.frozen? ⟨b, j, none⟩ = false :=
  ⟨by rw [cell_of_row w b 0 _ t _ h]; rfl, by rw [cell_of_row w b 1 _ t _ h]; rfl, by rw [cell_of_row w b 2 _ t _ h]; rfl, fun j => frozen_of_row w b j _ t h⟩

theorem cell_ex {w : World} {b i : Nat} {cs : Array Value} {t : TypeId} (h : w.heap[b]? = some (.cells cs t)) (hi : i < cs.size) : ∃ v, w.cell? ⟨b, i, none⟩ = some v := by
  rw [cell_of_row w b i _ t _ h]; exact ⟨_, Array.getElem?_eq_getElem hi⟩

/-- 'append(xs, x)' at a slice that is nil or the call's own, elements of one cell. -/
theorem wpList_app1 {P : Program} (w : World) {ops : Array Oper} {rest : List Oper} {o : Oper} {a : Act} {Q : Exit → Act → World → Prop}
    (hgd : o.guard = none) (s x : Operand) (t : TypeId) (ho : o.op = .call { callee := .builtin .append, args := #[s, x], argTypes := #[t, t] })
    (base : Nat) (e : TypeId) (z : Value) (bytes : Nat) (ht : P.underlying t = some (.slice e)) (hi : (P.info? e).map (fun i => (i.zero, i.size, i.bytes)) = some (some z, 1, bytes)) (hz : z.cells.size = 1)
    (v : Value) (n : Nat) (xs : List Value) (hs : a.eval s = v) (hown : w.ownsRow base e 1 v n xs)
    (b c : Nat) (u : Value) (hx : a.eval x = .slice (some ⟨b, 0, none⟩) 1 c) (hcell : w.cell? ⟨b, 0, none⟩ = some u) (h1 : u.oneCell' = true)
    (h63 : n + 1 ≤ maxLen) (hbytes : (n + 1) * bytes ≤ 140737488355328) (hbase : base ≤ w.heap.size)
    (h : ∀ (g' cap' : Nat) (w' : World), w'.ownsRow base e 1 (.slice (some ⟨g', 0, none⟩) (n + 1) cap') (n + 1) (xs ++ [u]) → w.grownBy w' v.ownBlock → wpList P ops Q rest (a.put o.dst (.slice (some ⟨g', 0, none⟩) (n + 1) cap')) w') :
    wpList P ops Q (o :: rest) a w := by
  obtain ⟨i, hi, hz0, hz1, hz2⟩ := info_parts hi
  refine wpList_append_own w hgd s x t ho base e i z 1 bytes ht hi hz0 hz1 hz2 hz (by omega) v n xs hs hown ⟨b, 0, none⟩ 1 c [u] hx (by simp) ?_ (by simpa using h1) h63 hbytes hbase ?_
  · intro j u' hj
    cases j with
    | zero => simp at hj; subst hj; simpa [Addr.add] using hcell
    | succ j => simp at hj
  · intro v' w' h2 h3 h4
    obtain ⟨g, cap, rfl⟩ := Joins.ownsRow_form h2 (by omega)
    exact h g cap w' h2 h3

/-- The same as one step of a region that draws its order ('go_region_law'). -/
theorem step_app1 {P : Program} {ops : Array Oper} {o : Oper} {a : Act} {w : World} {K : Act → World → Prop} {Q : Exit → Act → World → Prop} {E : Prop}
    (hgd : o.guard = none) (s x : Operand) (t : TypeId) (ho : o.op = .call { callee := .builtin .append, args := #[s, x], argTypes := #[t, t] })
    (base : Nat) (e : TypeId) (z : Value) (bytes : Nat) (ht : P.underlying t = some (.slice e)) (hi : (P.info? e).map (fun i => (i.zero, i.size, i.bytes)) = some (some z, 1, bytes)) (hz : z.cells.size = 1)
    (v : Value) (n : Nat) (xs : List Value) (hs : a.eval s = v) (hown : w.ownsRow base e 1 v n xs)
    (b c : Nat) (u : Value) (hx : a.eval x = .slice (some ⟨b, 0, none⟩) 1 c) (hcell : w.cell? ⟨b, 0, none⟩ = some u) (h1 : u.oneCell' = true)
    (h63 : n + 1 ≤ maxLen) (hbytes : (n + 1) * bytes ≤ 140737488355328) (hbase : base ≤ w.heap.size)
    (h : ∀ (g' cap' : Nat) (w' : World), w'.ownsRow base e 1 (.slice (some ⟨g', 0, none⟩) (n + 1) cap') (n + 1) (xs ++ [u]) → w.grownBy w' v.ownBlock → K (a.put o.dst (.slice (some ⟨g', 0, none⟩) (n + 1) cap')) w') :
    if Region.wanted o (yielded ops a.tmps) = true then Oper.wp P o a w K Q else E := by
  have hw : Region.wanted o (yielded ops a.tmps) = true := by simp [Region.wanted, hgd]
  rw [if_pos hw]
  obtain ⟨i, hi, hz0, hz1, hz2⟩ := info_parts hi
  refine wp_append_own w s x t ho base e i z 1 bytes ht hi hz0 hz1 hz2 hz (by omega) v n xs hs hown ⟨b, 0, none⟩ 1 c [u] hx (by simp) ?_ (by simpa using h1) h63 hbytes hbase ?_
  · intro j u' hj
    cases j with
    | zero => simp at hj; subst hj; simpa [Addr.add] using hcell
    | succ j => simp at hj
  · intro v' w' h2 h3 h4
    obtain ⟨g, cap, rfl⟩ := Joins.ownsRow_form h2 (by omega)
    exact h g cap w' h2 h3

theorem run_neq_ptr_same {P : Program} {tp te : TypeId} {j : Nat} (hp : P.underlying tp = some (.pointer te)) (hte : (P.info? te).map (fun i => i.size) = some j) (w : World) (a : Addr) :
    (binOp .neq tp (.pointer (some a)) (.pointer (some a))).run P w = .ok (.bool false) w := by
  obtain ⟨i, hi, _⟩ := Option.map_eq_some_iff.1 hte
  have h : ∀ d : Nat, (Op.equalIn (d + 1) tp (.pointer (some a)) (.pointer (some a))).run P w = .ok true w := fun d => by
    simp [Op.equalIn, run_underlying hp, sizeOf, typeInfo, hi, run_sameAddr_same]
  simp only [binOp]
  simp [Op.equal, Op.maxDepth, h 9999]

theorem run_neq_ptr_other {P : Program} {tp te : TypeId} {j : Nat} (hp : P.underlying tp = some (.pointer te)) (hte : (P.info? te).map (fun i => i.size) = some j) (hj : j ≠ 0) (w : World) {a b : Addr} {ca cb : Array Value} {ta tb : TypeId}
    (hne : a ≠ b) (ha : w.heap[a.block]? = some (.cells ca ta (0, 0))) (hb : w.heap[b.block]? = some (.cells cb tb (0, 0))) :
    (binOp .neq tp (.pointer (some a)) (.pointer (some b))).run P w = .ok (.bool true) w := by
  obtain ⟨i, hi, rfl⟩ := Option.map_eq_some_iff.1 hte
  have h : ∀ d : Nat, (Op.equalIn (d + 1) tp (.pointer (some a)) (.pointer (some b))).run P w = .ok false w := fun d => by
    simp [Op.equalIn, run_underlying hp, sizeOf, typeInfo, hi, hj, run_sameAddr_other w hne ha hb]
  simp only [binOp]
  simp [Op.equal, Op.maxDepth, h 9999]

end Go.PK
