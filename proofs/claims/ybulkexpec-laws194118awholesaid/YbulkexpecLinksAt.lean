/- LawS194118AWhole: rows of links as data. -/
import Derived.Test.YbulkexpecAddAll
namespace Go.Proofs.Ybulkexpec
open Go.RowKit Go.PK Go.RegInv
set_option linter.unusedVariables false

/-- What came in as 'pre': n links at a0. -/
def PreAt (w : World) (a0 : Option Addr) (n : Nat) (S E : Nat → Int) (A : Nat → Value) (Z : Nat → Option (List Int)) : Prop :=
  ∀ k, k < n → ∃ b o, a0 = some ⟨b, o, none⟩ ∧ b < w.heap.size ∧ w.cell? ⟨b, o + k * 3, none⟩ = some (.int .i64 (S k)) ∧ w.cell? ⟨b, o + k * 3 + 1, none⟩ = some (.int .i64 (E k)) ∧ w.cell? ⟨b, o + k * 3 + 2, none⟩ = some (A k) ∧ SrcIs w (A k) (Z k)

theorem SrcIs.form {w : World} {v : Value} {z : Option (List Int)} (h : SrcIs w v z) : ∃ aa l c, v = .slice aa l c := by
  rcases h with ⟨rfl, _⟩ | ⟨x, c, zs, rfl, _⟩
  · exact ⟨_, _, _, rfl⟩
  · exact ⟨_, _, _, rfl⟩

/-- A row of m links of the call's own, as data. -/
def LinksAt (B : Nat) (w : World) (LV : Value) (m : Nat) (S E : Nat → Int) (Z : Nat → Option (List Int)) : Prop :=
  ∃ xs, w.ownsRow B 28 3 LV m xs ∧ ∀ i, i < m → xs[i * 3]? = some (.int .i64 (S i)) ∧ xs[i * 3 + 1]? = some (.int .i64 (E i)) ∧ ∃ u, xs[i * 3 + 2]? = some u ∧ AddrIs B w u (Z i)

theorem LinksAt.nil (B : Nat) (w : World) (S E : Nat → Int) (Z : Nat → Option (List Int)) : LinksAt B w (.slice none 0 0) 0 S E Z :=
  ⟨[], World.ownsRow_nil _ _ _ _, fun i hi => absurd hi (by omega)⟩

theorem LinksAt.keep {B : Nat} {w w' : World} {LV : Value} {m : Nat} {S E : Nat → Int} {Z : Nat → Option (List Int)} (h : LinksAt B w LV m S E Z) (hk : ∀ (b : Nat) (o : Obj), w.heap[b]? = some o → w'.heap[b]? = some o) : LinksAt B w' LV m S E Z := by
  obtain ⟨xs, h1, h2⟩ := h
  refine ⟨xs, ?_, fun i hi => ?_⟩
  · rcases Joins.ownsRow_forms h1 with ⟨rfl, rfl⟩ | ⟨g, cap, rfl⟩
    · exact ⟨h1.1, .inl ⟨rfl, rfl⟩⟩
    · exact own_keep h1 fun o ho => hk _ _ ho
  · obtain ⟨a, b, u, c, d⟩ := h2 i hi
    exact ⟨a, b, u, c, d.keep (Nat.le_refl _) fun b o _ h => hk _ _ h⟩

/-- One link more: behind the append. -/
theorem LinksAt.snoc {B N : Nat} {w w' : World} {LV v : Value} {m : Nat} {S E : Nat → Int} {Z : Nat → Option (List Int)} {xs : List Value} (hBN : B ≤ N)
    (h1 : w.ownsRow B 28 3 LV m xs) (h2 : ∀ i, i < m → xs[i * 3]? = some (.int .i64 (S i)) ∧ xs[i * 3 + 1]? = some (.int .i64 (E i)) ∧ ∃ u, xs[i * 3 + 2]? = some u ∧ AddrIs B w u (Z i))
    (hr : LinkRow B N m xs (S m) (E m) (Z m) v w') (hk : ∀ (b : Nat) (cur : Array Value), w.heap[b]? = some (.cells cur 5) → some b ≠ LV.ownBlock → w'.heap[b]? = some (.cells cur 5)) : LinksAt B w' v (m + 1) S E Z := by
  obtain ⟨g, cap, u, rfl, ho, hu⟩ := hr
  have hl : xs.length = m * 3 := h1.1
  refine ⟨_, ho, fun i hi => ?_⟩
  by_cases him : i = m
  · subst him
    refine ⟨?_, ?_, u, ?_, hu.keep hBN fun _ _ _ h => h⟩
    · rw [List.getElem?_append_right (by omega), hl]; simp
    · rw [List.getElem?_append_right (by omega), hl, show i * 3 + 1 - i * 3 = 1 by omega]; rfl
    · rw [List.getElem?_append_right (by omega), hl, show i * 3 + 2 - i * 3 = 2 by omega]; rfl
  · obtain ⟨a, b, u', c, d⟩ := h2 i (by omega)
    refine ⟨?_, ?_, u', ?_, ?_⟩
    · rw [List.getElem?_append_left (by omega)]; exact a
    · rw [List.getElem?_append_left (by omega)]; exact b
    · rw [List.getElem?_append_left (by omega)]; exact c
    · rcases d with d | ⟨g', cap', zs, cur, e1, e2, e3, e4, r⟩
      · exact .inl d
      · refine .inr ⟨g', cap', zs, cur, e1, e2, e3, hk _ _ e4 ?_, r⟩
        rcases Joins.ownsRow_forms h1 with ⟨rfl, _⟩ | ⟨g2, cap2, rfl⟩
        · simp [Value.ownBlock]
        · obtain ⟨cur2, hc2, _⟩ := own_blk h1
          have := ne_of_type e4 hc2 (by decide)
          simpa [Value.ownBlock] using this


def upd {α : Type} (f : Nat → α) (m : Nat) (x : α) : Nat → α := fun i => if i = m then x else f i
theorem upd_at {α : Type} (f : Nat → α) (m : Nat) (x : α) : upd f m x m = x := by simp [upd]
theorem upd_lt {α : Type} (f : Nat → α) (m : Nat) (x : α) {i : Nat} (h : i < m) : upd f m x i = f i := by
  unfold upd; rw [if_neg (by omega)]

/-- One link more, whatever it is. -/
theorem LinksAt.snoc' {B N : Nat} {w w' : World} {LV v : Value} {m : Nat} {S E : Nat → Int} {Z : Nat → Option (List Int)} {xs : List Value} {s e : Int} {z : Option (List Int)} (hBN : B ≤ N)
    (h1 : w.ownsRow B 28 3 LV m xs) (h2 : ∀ i, i < m → xs[i * 3]? = some (.int .i64 (S i)) ∧ xs[i * 3 + 1]? = some (.int .i64 (E i)) ∧ ∃ u, xs[i * 3 + 2]? = some u ∧ AddrIs B w u (Z i))
    (hr : LinkRow B N m xs s e z v w') (hk : ∀ (b : Nat) (cur : Array Value), w.heap[b]? = some (.cells cur 5) → some b ≠ LV.ownBlock → w'.heap[b]? = some (.cells cur 5)) : LinksAt B w' v (m + 1) (upd S m s) (upd E m e) (upd Z m z) := by
  refine LinksAt.snoc hBN h1 (fun i hi => ?_) (by rw [upd_at, upd_at, upd_at]; exact hr) hk
  rw [upd_lt _ _ _ hi, upd_lt _ _ _ hi, upd_lt _ _ _ hi]; exact h2 i hi

theorem LinksAt.form {B : Nat} {w : World} {LV : Value} {m : Nat} {S E : Nat → Int} {Z : Nat → Option (List Int)} (h : LinksAt B w LV m S E Z) : ∃ lp lc, LV = .slice lp m lc ∧ ∀ q, LV.ownBlock = some q → B ≤ q ∧ q < w.heap.size := by
  obtain ⟨xs, h1, _⟩ := h
  rcases Joins.ownsRow_forms h1 with ⟨rfl, rfl⟩ | ⟨g, cap, rfl⟩
  · exact ⟨_, _, rfl, h1.lt⟩
  · exact ⟨_, _, rfl, h1.lt⟩

/-- The cells of link i. -/
theorem LinksAt.at {B : Nat} {w : World} {LV : Value} {m : Nat} {S E : Nat → Int} {Z : Nat → Option (List Int)} (h : LinksAt B w LV m S E Z) {i : Nat} (hi : i < m) :
    ∃ g cap u, LV = .slice (some ⟨g, 0, none⟩) m cap ∧ g < w.heap.size ∧ B ≤ g ∧ w.cell? ⟨g, 0 + i * 3, none⟩ = some (.int .i64 (S i)) ∧ w.cell? ⟨g, 0 + i * 3 + 1, none⟩ = some (.int .i64 (E i)) ∧ w.cell? ⟨g, 0 + i * 3 + 2, none⟩ = some u ∧ AddrIs B w u (Z i) := by
  obtain ⟨xs, h1, h2⟩ := h
  obtain ⟨g, cap, rfl⟩ := Joins.ownsRow_form h1 (by omega)
  obtain ⟨cur, hc, hB, k1, k2, k3, k4⟩ := own_blk h1
  obtain ⟨a, b, u, c, d⟩ := h2 i hi
  have key : ∀ (j : Nat) (v : Value), xs[j]? = some v → w.cell? ⟨g, 0 + j, none⟩ = some v := by
    intro j v hj
    rw [Nat.zero_add, cell_of_row w g j _ 28 _ hc]
    rw [← k4] at hj
    have hlt : j < m * 3 := by have := (List.getElem?_eq_some_iff.1 hj).1; rw [List.length_take] at this; omega
    rw [List.getElem?_take_of_lt hlt] at hj
    simpa using hj
  exact ⟨g, cap, u, rfl, blk_lt hc, hB, key _ _ a, by have := key _ _ b; rwa [← Nat.add_assoc] at this, by have := key _ _ c; rwa [← Nat.add_assoc] at this, d⟩

/-- The row and what it points to stand, whatever else turned. -/
theorem LinksAt.keep_ne {B : Nat} {w w' : World} {LV : Value} {m : Nat} {S E : Nat → Int} {Z : Nat → Option (List Int)} (h : LinksAt B w LV m S E Z) (X : Nat → Prop) (hX : ∀ q, LV.ownBlock = some q → ¬ X q) (hX5 : ∀ q cur, w.heap[q]? = some (.cells cur 5) → ¬ X q) (hk : ∀ (b : Nat) (o : Obj), w.heap[b]? = some o → ¬ X b → w'.heap[b]? = some o) : LinksAt B w' LV m S E Z := by
  obtain ⟨xs, h1, h2⟩ := h
  refine ⟨xs, ?_, fun i hi => ?_⟩
  · rcases Joins.ownsRow_forms h1 with ⟨rfl, rfl⟩ | ⟨g, cap, rfl⟩
    · exact ⟨h1.1, .inl ⟨rfl, rfl⟩⟩
    · exact own_keep h1 fun o ho => hk _ _ ho (hX _ rfl)
  · obtain ⟨a, b, u, c, d⟩ := h2 i hi
    refine ⟨a, b, u, c, ?_⟩
    rcases d with d | ⟨g', cap', zs, cur, e1, e2, e3, e4, r⟩
    · exact .inl d
    · exact .inr ⟨g', cap', zs, cur, e1, e2, e3, hk _ _ e4 (hX5 _ _ e4), r⟩

/-- 'append' of one link, in the walk. -/
theorem wpList_link (w : World) {ops : Array Oper} {rest : List Oper} {o : Oper} {a : Act} {Q : Exit → Act → World → Prop} (hgd : o.guard = none) (s x : Operand)
    (ho : o.op = .call { callee := .builtin .append, args := #[s, x], argTypes := #[26, 26] }) (B m : Nat) (LV : Value) (xs : List Value) (hs : a.eval s = LV) (hown : w.ownsRow B 28 3 LV m xs)
    (bb : Nat) (S E : Int) (u : Value) (hx : a.eval x = .slice (some ⟨bb, 0, none⟩) 1 1) (hcb : w.heap[bb]? = some (.cells #[.int .i64 S, .int .i64 E, u] 28)) (hue : ∃ aa l c, u = .slice aa l c) (hm : m ≤ 1000000) (hB : B ≤ w.heap.size)
    (h : ∀ g cap w', w'.ownsRow B 28 3 (.slice (some ⟨g, 0, none⟩) (m + 1) cap) (m + 1) (xs ++ [.int .i64 S, .int .i64 E, u]) → w.grownBy w' LV.ownBlock → wpList Yba.prog ops Q rest (a.put o.dst (.slice (some ⟨g, 0, none⟩) (m + 1) cap)) w') :
    wpList Yba.prog ops Q (o :: rest) a w := by
  obtain ⟨i, hi, hz0, hz1, hz2⟩ := info_parts Yba.info28
  obtain ⟨c0, c1, c2, _⟩ := cells3 hcb
  refine wpList_append_own w hgd s x 26 ho B 28 i _ 3 40 Yba.underlying26 hi hz0 hz1 hz2 rfl (by omega) LV m xs hs hown ⟨bb, 0, none⟩ 1 1 [.int .i64 S, .int .i64 E, u] hx (by simp) ?_ ?_ (by simp [maxLen]; omega) (by omega) hB ?_
  · intro j v hj
    rw [Go.WideShapes.add_plain, Nat.zero_add]
    match j, hj with
    | 0, hj => simp at hj; subst hj; exact c0
    | 1, hj => simp at hj; subst hj; exact c1
    | 2, hj => simp at hj; subst hj; exact c2
    | j + 3, hj => simp at hj
  · intro v hv
    obtain ⟨aa, l, c, rfl⟩ := hue
    simp at hv
    rcases hv with rfl | rfl | rfl <;> rfl
  · intro v' w' h2 h3 h4
    obtain ⟨g, cap, rfl⟩ := Joins.ownsRow_form h2 (by omega)
    exact h g cap w' h2 h3

/-- 'make([]Link, 0, c)'. -/
def made (c : Nat) : Array Value := madeCells (Value.agg #[.int .i64 0, .int .i64 0, .slice none 0 0]).cells (c * 3)
theorem make_links (c : Nat) (hc : c ≤ 1000000) (k : Int) (hk : k = (c : Int)) (w : World) :
    (Instr.makeSlice 26 (.int .i64 0) (.int .i64 k)).run Yba.prog w = .ok (.slice (some ⟨w.heap.size, 0, none⟩) 0 c) (w.alloc (.cells (made c) 28)) := by
  subst hk
  obtain ⟨i, hi, hz0, hz1, hz2⟩ := info_parts Yba.info28
  have := run_make (P := Yba.prog) w 26 28 i _ Yba.underlying26 hi hz0 .i64 .i64 0 c (by omega) (by omega) (by rw [hz2]; omega) (by omega)
  rw [this, hz1]
  simp [made]
theorem LinksAt.made (c : Nat) (hc : c ≤ 1000000) (w : World) (S E : Nat → Int) (Z : Nat → Option (List Int)) : LinksAt w.heap.size (w.alloc (.cells (made c) 28)) (.slice (some ⟨w.heap.size, 0, none⟩) 0 c) 0 S E Z := by
  have := own_mk (n := 0) (cap := c) (size := 3) (blk_new w (.cells (Ybulkexpec.made c) 28)) (Nat.le_refl _) (by omega) (by unfold maxLen; omega) (size_madeCells _ _)
  exact ⟨_, this, fun i hi => absurd hi (by omega)⟩

theorem neq31 (w : World) : (binOp .neq 31 (.map none) (.map none)).run Yba.prog w = .ok (.bool false) w := rfl

/-- The last link's address. -/
theorem LinkRow.last {B N m k lc : Nat} {lp : Option Addr} {xs : List Value} {S E : Int} {z : Option (List Int)} {w : World} (h : LinkRow B N m xs S E z (.slice lp k lc) w) (hl : xs.length = m * 3) :
    ∃ g u, lp = some ⟨g, 0, none⟩ ∧ g < w.heap.size ∧ w.cell? ⟨g, m * 3 + 2, none⟩ = some u ∧ AddrIs N w u z := by
  obtain ⟨g, cap, u, e, hown, hu⟩ := h
  simp only [Value.slice.injEq] at e
  obtain ⟨rfl, rfl, rfl⟩ := e
  obtain ⟨cur, hc, _, _, _, _, k4⟩ := own_blk hown
  refine ⟨g, u, rfl, blk_lt hc, ?_, hu⟩
  rw [cell_of_row w g _ _ 28 _ hc]
  have h1 : (cur.toList.take ((m + 1) * 3))[m * 3 + 2]? = some u := by
    rw [k4, List.getElem?_append_right (by omega), hl, show m * 3 + 2 - m * 3 = 2 by omega]; rfl
  rw [List.getElem?_take_of_lt (by omega)] at h1
  simpa using h1

end Go.Proofs.Ybulkexpec
