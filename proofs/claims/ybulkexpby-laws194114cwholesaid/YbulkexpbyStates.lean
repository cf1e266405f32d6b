/- LawS194114CWhole (function 5): what the walk's stages leave. -/
import Derived.Test.YbulkexpbyPlain
import Derived.Test.YbulkexpbyRegion
import Derived.Deep.RegionLaw
import Derived.Laws.StructEq
namespace Go.Proofs.Ybulkexpby
open Go.RowKit Go.PK Go.SM
set_option linter.unusedVariables false

def PreC (w : World) (a0 : Option Addr) (n : Nat) (N : Nat → ByteArray) (Af : Nat → Int) : Prop :=
  ∀ k, k < n → ∃ b o, a0 = some ⟨b, o, none⟩ ∧ b < w.heap.size ∧ w.cell? ⟨b, o + k * 2, none⟩ = some (.string (N k)) ∧ w.cell? ⟨b, o + k * 2 + 1, none⟩ = some (.int .i64 (Af k))

set_option maxHeartbeats 1000000 in
set_option maxRecDepth 100000 in
theorem lawC_big (a0 a2 a3 a4 : Option Addr) (n0 c0 n2 c2 n3 c3 n4 c4 : Nat) (lk by_ : Int) (odd : Bool) (w : World) (h : 4096 < n0 + n2 + n3 + n4) (h0 : n0 ≤ maxLen) (h2 : n2 ≤ maxLen) (h3 : n3 ≤ maxLen) (h4 : n4 ≤ maxLen)
    (hs : n0 + n2 + n3 + n4 ≤ 9223372036854775807) :
    Calls Yba.prog 5 #[.slice a0 n0 c0, .int .u8 lk, .slice a2 n2 c2, .slice a3 n3 c3, .slice a4 n4 c4, .bool odd, .int .i64 by_] w fun e w' => e = .returned (.bool true) ∧ Below w.heap.size w w' := by
  have hd : decide ((4096 : Int) < (n0 : Int) + n2 + n3 + n4) = true := by simp; omega
  go_enter Yba.func5, Yba.ntmps5
  go_wp2
  go_ret
  exact ⟨rfl, Below.refl _ _⟩

theorem strs_of_row {w : World} {B : Nat} {v : Value} {A : AL} (h : w.ownsRow B 9 1 v A.length (A.map keyV)) (hn : A.length ≤ 100000) : StrsAt w v A.length (keyAt A) := by
  rcases Joins.ownsRow_forms h with ⟨rfl, h0⟩ | ⟨g, cap, rfl⟩
  · have : A.length = 0 := h0
    rw [this]
    exact ⟨none, 0, rfl, by omega, fun k hk => absurd hk (by omega)⟩
  · obtain ⟨cur, hc, _, _, _, hsz, k4⟩ := own_blk h
    refine ⟨_, _, rfl, hn, fun k hk => ⟨g, 0, rfl, blk_lt hc, ?_⟩⟩
    rw [cell_of_row w g _ _ 9 _ hc, Nat.zero_add]
    have h1 := keyAt_get hk
    rw [← k4, List.getElem?_take_of_lt (by omega)] at h1
    simpa using h1

theorem Yba.info71 : (Yba.prog.info? 71).map (fun i => (i.zero, i.size, i.bytes)) = some (some (.agg #[.pointer none, .int .i64 0]), 2, 16) := by kernel_rfl
theorem wpList_sv (w : World) {ops : Array Oper} {rest : List Oper} {o : Oper} {a : Act} {Q : Exit → Act → World → Prop}
    (hgd : o.guard = none) (s x : Operand) (ho : o.op = .call { callee := .builtin .append, args := #[s, x], argTypes := #[67, 67] })
    (base : Nat) (v : Value) (n : Nat) (xs : List Value) (hs : a.eval s = v) (hown : w.ownsRow base 71 2 v n xs)
    (b c nb : Nat) (af : Int) (hx : a.eval x = .slice (some ⟨b, 0, none⟩) 1 c) (hb : w.heap[b]? = some (.cells #[.pointer (some ⟨nb, 0, none⟩), .int .i64 af] 71))
    (hn : n ≤ 100000) (hbase : base ≤ w.heap.size)
    (h : ∀ (g' cap' : Nat) (w' : World), w'.ownsRow base 71 2 (.slice (some ⟨g', 0, none⟩) (n + 1) cap') (n + 1) (xs ++ [.pointer (some ⟨nb, 0, none⟩), .int .i64 af]) → w.grownBy w' v.ownBlock → wpList Yba.prog ops Q rest (a.put o.dst (.slice (some ⟨g', 0, none⟩) (n + 1) cap')) w') :
    wpList Yba.prog ops Q (o :: rest) a w := by
  obtain ⟨i, hi, hz0, hz1, hz2⟩ := info_parts Yba.info71
  refine wpList_append_own_at w hgd s x 67 ho base 71 i _ 2 16 Yba.underlying67 hi hz0 hz1 hz2 rfl (by omega) v n xs hs hown ⟨b, 0, none⟩ 1 c [.pointer (some ⟨nb, 0, none⟩), .int .i64 af] hx (by simp) ?_ (by simp; exact ⟨rfl, rfl⟩) (by unfold maxLen; omega) (by omega) hbase ?_
  · intro j u' hj
    rw [Go.WideShapes.add_plain, Nat.zero_add, cell_of_row w b j _ 71 _ hb]
    match j, hj with
    | 0, hj => simpa using hj
    | 1, hj => simpa using hj
    | j + 2, hj => simp at hj
  · intro v' w' h2 h3 h4 h5
    obtain ⟨g, cap, rfl⟩ := Joins.ownsRow_form h2 (by omega)
    exact h g cap w' h2 h3

/-- The state behind stage 1. -/
structure St1 (w x : World) (vb : Nat) (n0 : Nat) (by_ : Int) (sv u17 u18 : Value) (A : AL) : Prop where
  blk : x.heap[vb]? = some (.cells (vsCells sv (.slice none 0 0) (.slice none 0 0) (.map none) (.map none) (.map none) by_) 66)
  vb : w.heap.size ≤ vb
  set : MapAt x sv A
  setge : ∀ s, sv = .map (some s) → w.heap.size ≤ s
  nil : n0 = 0 → sv = .map none
  some_ : 0 < n0 → ∃ s, sv = .map (some s)
  r17 : x.ownsRow w.heap.size 9 1 u17 A.length (A.map keyV)
  r18 : x.ownsRow w.heap.size 71 2 u18 A.length (flat A)
  svs : Svs A
  len : A.length ≤ n0
  bel : Below w.heap.size w x

theorem put_ne (A : AL) (k : ByteArray) (v : Value) : SM.put A k v ≠ [] := by
  cases A with
  | nil => simp [SM.put]
  | cons p A => by_cases e : p.1 = k <;> simp [SM.put, e]

theorem setRow2 {w : World} {B g n cap : Nat} {A : AL} {j nb : Nat} {k : ByteArray} {af : Int} (hs : Svs A) (h : w.ownsRow B 71 2 (.slice (some ⟨g, 0, none⟩) n cap) n (flat A)) (hn : n = A.length) (hj : j < A.length) :
    ((w.setCell ⟨g, j * 2, none⟩ (.pointer (some ⟨nb, 0, none⟩))).setCell ⟨g, j * 2 + 1, none⟩ (.int .i64 af)).ownsRow B 71 2 (.slice (some ⟨g, 0, none⟩) n cap) n (flat (A.set j (k, svOf nb af))) := by
  obtain ⟨cur, hc, hB, h1, h2, h3, h4⟩ := own_blk h
  have h5 := blk_same (blk_same hc (j * 2) (.pointer (some ⟨nb, 0, none⟩))) (j * 2 + 1) (.int .i64 af)
  have := own_mk (n := n) (size := 2) h5 hB h1 h2 (by simpa using h3)
  rw [flat_set hs hj, ← h4]
  have e : (((cur.setIfInBounds (j * 2) (.pointer (some ⟨nb, 0, none⟩))).setIfInBounds (j * 2 + 1) (.int .i64 af)).toList.take (n * 2)) = ((cur.toList.take (n * 2)).set (j * 2) (ptr nb)).set (j * 2 + 1) (.int .i64 af) := by
    simp only [Array.toList_setIfInBounds, List.take_set]
    rfl
  rw [← e]
  exact this

theorem st1_old {w wr Y : World} {vb n0 sm j g cap nb : Nat} {by_ : Int} {u17 u18 v0 : Value} {A : AL} {k : ByteArray} {af : Int} (hS : St1 w wr vb n0 by_ (.map (some sm)) u17 u18 A) (hM : Moved wr Y (fun b => b = sm))
    (hv : Y.heap[vb]? = some (.cells (vsCells (.map (some sm)) (.slice none 0 0) (.slice none 0 0) (.map none) (.map none) (.map none) by_) 66)) (hm : StrMap Y sm (put A k (svOf nb af)))
    (h17 : Y.ownsRow w.heap.size 9 1 u17 A.length (A.map keyV)) (h18 : Y.ownsRow w.heap.size 71 2 (.slice (some ⟨g, 0, none⟩) A.length cap) A.length (flat A)) (hfi : SM.fidx A k = some (j, v0)) (hj : j < A.length) :
    St1 w ((Y.setCell ⟨g, j * 2, none⟩ (.pointer (some ⟨nb, 0, none⟩))).setCell ⟨g, j * 2 + 1, none⟩ (.int .i64 af)) vb n0 by_ (.map (some sm)) u17 (.slice (some ⟨g, 0, none⟩) A.length cap) (put A k (svOf nb af)) := by
  obtain ⟨cur, hc, hB, _⟩ := own_blk h18
  have hbY : Below w.heap.size w Y := hS.bel.trans (hM.below hS.bel.size fun b e => by subst e; exact hS.setge _ rfl)
  have hk2 : ∀ b o, b ≠ g → Y.heap[b]? = some o → ((Y.setCell ⟨g, j * 2, none⟩ (.pointer (some ⟨nb, 0, none⟩))).setCell ⟨g, j * 2 + 1, none⟩ (.int .i64 af)).heap[b]? = some o := fun b o hne ho => blk_set (blk_set ho hne _) hne _
  have hko := keys_old (v := svOf nb af) (look_hit hfi)
  refine ⟨hk2 _ _ (ne_of_type hv hc (by decide)) hv, hS.vb, .inr ⟨sm, rfl, hm.kept fun o ho => hk2 _ _ (fun e => hm.ne hc e.symm) ho⟩, hS.setge, hS.nil, hS.some_, ?_, ?_, hS.svs.put _ _ _, by rw [hko.1]; exact hS.len, (hbY.setCell hB _).setCell hB _⟩
  · rw [hko.1, hko.2]
    exact row_kept h17 fun q o hq ho => hk2 _ _ (fun e => row_ne h17 hq hc (by decide) e.symm) ho
  · rw [SM.put_some A k _ j v0 hfi, List.length_set]
    exact setRow2 hS.svs h18 rfl hj

theorem st1_new {w wr Y Y1 Y2 : World} {vb n0 sm nb g17 c17 g18 c18 : Nat} {by_ : Int} {u17 u18 : Value} {A : AL} {k : ByteArray} {af : Int} {o2 : Obj} (hS : St1 w wr vb n0 by_ (.map (some sm)) u17 u18 A) (hM : Moved wr Y (fun b => b = sm))
    (hv : Y.heap[vb]? = some (.cells (vsCells (.map (some sm)) (.slice none 0 0) (.slice none 0 0) (.map none) (.map none) (.map none) by_) 66)) (hm : StrMap Y sm (put A k (svOf nb af)))
    (h17 : Y.ownsRow w.heap.size 9 1 u17 A.length (A.map keyV)) (h18 : Y1.ownsRow w.heap.size 71 2 u18 A.length (flat A)) (hfi : SM.fidx A k = none) (hlen : A.length + 1 ≤ n0)
    (hM1 : Moved Y Y1 (fun b => u17.ownBlock = some b)) (ho1 : Y1.ownsRow w.heap.size 9 1 (.slice (some ⟨g17, 0, none⟩) (A.length + 1) c17) (A.length + 1) (A.map keyV ++ [.string k]))
    (hg2 : (Y1.alloc o2).grownBy Y2 u18.ownBlock) (ho2 : Y2.ownsRow w.heap.size 71 2 (.slice (some ⟨g18, 0, none⟩) (A.length + 1) c18) (A.length + 1) (flat A ++ [.pointer (some ⟨nb, 0, none⟩), .int .i64 af])) :
    St1 w Y2 vb n0 by_ (.map (some sm)) (.slice (some ⟨g17, 0, none⟩) (A.length + 1) c17) (.slice (some ⟨g18, 0, none⟩) (A.length + 1) c18) (put A k (svOf nb af)) := by
  have hM2 : Moved Y1 Y2 (fun b => u18.ownBlock = some b) := (Moved.alloc Y1 _ _).trans (Moved.of_grown hg2) fun i h => .inl h
  have hbY : Below w.heap.size w Y := hS.bel.trans (hM.below hS.bel.size fun b e => by subst e; exact hS.setge _ rfl)
  have hv1 := hM1.blk hv fun e => row_ne h17 e hv (by decide) rfl
  have hm1 : StrMap Y1 sm (put A k (svOf nb af)) := hm.kept fun o ho => hM1.blk ho fun e => row_ne_map h17 e hm rfl
  have hkn := keys_new (v := svOf nb af) (look_miss hfi)
  obtain ⟨cur17, hc17, hB17, _⟩ := own_blk ho1
  have hlt17 : ∀ q, u17.ownBlock = some q → w.heap.size ≤ q := fun q hq => (h17.lt q hq).1
  have hlt18 : ∀ q, u18.ownBlock = some q → w.heap.size ≤ q := fun q hq => (h18.lt q hq).1
  have hb1 : Below w.heap.size w Y1 := hbY.trans (hM1.below hbY.size hlt17)
  refine ⟨hM2.blk hv1 fun e => row_ne h18 e hv1 (by decide) rfl, hS.vb, .inr ⟨sm, rfl, hm1.kept fun o ho => hM2.blk ho fun e => row_ne_map h18 e hm1 rfl⟩, hS.setge, hS.nil, hS.some_, ?_, ?_, hS.svs.put _ _ _, ?_, hb1.trans (hM2.below hb1.size hlt18)⟩
  · rw [hkn]
    simp only [List.length_append, List.length_singleton, List.map_append, List.map_cons, List.map_nil]
    exact own_keep ho1 fun o ho => hM2.blk ho fun e => row_ne h18 e hc17 (by decide) rfl
  · rw [hkn, flat_append]
    simpa [flat, svOf] using ho2
  · rw [hkn]
    simpa using hlen

theorem row_form {w : World} {B e s n : Nat} {v : Value} {xs : List Value} (h : w.ownsRow B e s v n xs) : ∃ p c, v = .slice p n c := by
  rcases Joins.ownsRow_forms h with ⟨rfl, rfl⟩ | ⟨g, cap, rfl⟩
  · exact ⟨_, _, rfl⟩
  · exact ⟨_, _, rfl⟩
theorem rows_apart {w : World} {B B' e e' s s' n n' q : Nat} {v v' : Value} {xs xs' : List Value} (h : w.ownsRow B e s v n xs) (h' : w.ownsRow B' e' s' v' n' xs') (hne : e ≠ e') (hq : v.ownBlock = some q) (hq' : v'.ownBlock = some q) : False := by
  rcases Joins.ownsRow_forms h with ⟨hh, _⟩ | ⟨g, cap, hh⟩
  · rw [hh] at hq; cases hq
  · rw [hh] at hq h
    cases hq
    obtain ⟨cur, hc, _⟩ := own_blk h
    exact row_ne h' hq' hc hne rfl

theorem vals_keys (A : AL) : vals A.length (fun i => .string (keyAt A i)) = A.map keyV := by
  apply List.ext_getElem?
  intro i
  by_cases h : i < A.length
  · rw [vals_get _ _ _ h, keyAt_get h]
  · rw [List.getElem?_eq_none (by simp [vals]; omega), List.getElem?_eq_none (by simp; omega)]

theorem Yba.info76 : (Yba.prog.info? 76).map (fun i => (i.zero, i.size, i.bytes)) = some (some .nilFunc, 1, 8) := by kernel_rfl

/-- The state in stage 2: the names cloned; lookups. -/
structure St2 (w x : World) (vb n0 B2 i : Nat) (by_ : Int) (sv nv lv u17 u18 fnv : Value) (A : AL) : Prop where
  blk : x.heap[vb]? = some (.cells (vsCells sv nv lv (.map none) (.map none) (.map none) by_) 66)
  vbge : w.heap.size ≤ vb ∧ vb < B2
  set : MapAt x sv A
  setge : ∀ s, sv = .map (some s) → w.heap.size ≤ s ∧ s < B2
  nil : A = [] → sv = .map none
  r17 : x.ownsRow w.heap.size 9 1 u17 A.length (A.map keyV)
  r17lt : ∀ q, u17.ownBlock = some q → q < B2
  r18 : x.ownsRow w.heap.size 71 2 u18 A.length (flat A)
  svs : Svs A
  len : A.length ≤ n0
  bel : Below w.heap.size w x
  names : x.ownsRow B2 9 1 nv A.length (A.map keyV)
  B2le : w.heap.size ≤ B2 ∧ B2 ≤ x.heap.size
  look : x.ownsRow B2 76 1 lv i (List.replicate i fnv)

theorem St2.start {w wr x2 : World} {vb n0 : Nat} {by_ : Int} {sv u17 u18 nv fnv : Value} {A : AL} (hS : St1 w wr vb n0 by_ sv u17 u18 A) (hb : Below wr.heap.size wr x2) (hown : x2.ownsRow wr.heap.size 9 1 nv A.length (A.map keyV)) (hne : n0 = 0 ∨ A ≠ []) :
    St2 w (x2.setCell ⟨vb, 1, none⟩ nv) vb n0 wr.heap.size 0 by_ sv nv (.slice none 0 0) u17 u18 fnv A := by
  have hv2 := blk_below hS.blk hb (blk_lt hS.blk)
  have hk : ∀ b o, b ≠ vb → b < wr.heap.size → wr.heap[b]? = some o → (x2.setCell ⟨vb, 1, none⟩ nv).heap[b]? = some o := fun b o h1 h2 h3 => blk_set (blk_below h3 hb h2) h1 _
  have hvlt := blk_lt hS.blk
  refine ⟨blk_same hv2 1 _, ⟨hS.vb, hvlt⟩, hS.set.kept fun b o e ho => hk b o (fun h => ?_) (blk_lt ho) ho, fun s e => ⟨hS.setge s e, ?_⟩, (fun e => hne.elim hS.nil fun h => absurd e h), ?_, fun q hq => (hS.r17.lt q hq).2, ?_, hS.svs, hS.len, (hS.bel.trans (hb.mono hS.bel.size)).setCell hS.vb _, ?_, ⟨hS.bel.size, ?_⟩, World.ownsRow_nil _ _ _ _⟩
  · rcases hS.set with ⟨h', _⟩ | ⟨s, h', hs⟩
    · rw [h'] at e; cases e
    · rw [h'] at e; cases e; exact hs.ne hS.blk h.symm
  · rcases hS.set with ⟨h', _⟩ | ⟨s', h', hs⟩
    · rw [h'] at e; cases e
    · rw [h'] at e; cases e; exact hs.lt
  · exact row_kept hS.r17 fun g o hg ho => hk g o (fun h => row_ne hS.r17 hg hS.blk (by decide) h.symm) (blk_lt ho) ho
  · exact row_kept hS.r18 fun g o hg ho => hk g o (fun h => row_ne hS.r18 hg hS.blk (by decide) h.symm) (blk_lt ho) ho
  · exact row_kept hown fun g o hg ho => blk_set ho (fun h => row_ne hown hg hv2 (by decide) h.symm) _
  · have := hb.size
    simpa using this

theorem St2.step {w wr x1 : World} {vb n0 B2 i g cap : Nat} {by_ : Int} {sv u17 u18 nv lv fnv : Value} {A : AL} {o : Obj} (hS : St2 w wr vb n0 B2 i by_ sv nv lv u17 u18 fnv A) (hg : (wr.alloc o).grownBy x1 lv.ownBlock)
    (hown : x1.ownsRow B2 76 1 (.slice (some ⟨g, 0, none⟩) (i + 1) cap) (i + 1) (List.replicate i fnv ++ [fnv])) :
    St2 w (x1.setCell ⟨vb, 2, none⟩ (.slice (some ⟨g, 0, none⟩) (i + 1) cap)) vb n0 B2 (i + 1) by_ sv nv (.slice (some ⟨g, 0, none⟩) (i + 1) cap) u17 u18 fnv A := by
  have hM : Moved wr x1 (fun b => lv.ownBlock = some b) := (Moved.alloc wr _ _).trans (Moved.of_grown hg) fun _ h => .inl h
  have hv2 := hM.blk hS.blk fun e => row_ne hS.look e hS.blk (by decide) rfl
  have hk : ∀ b o, b ≠ vb → lv.ownBlock ≠ some b → wr.heap[b]? = some o → (x1.setCell ⟨vb, 2, none⟩ (.slice (some ⟨g, 0, none⟩) (i + 1) cap)).heap[b]? = some o := fun b o h1 h2 h3 => blk_set (hM.blk h3 h2) h1 _
  have hge : ∀ q, lv.ownBlock = some q → B2 ≤ q := fun q hq => (hS.look.lt q hq).1
  refine ⟨blk_same hv2 2 _, hS.vbge, hS.set.kept fun b o e ho => hk b o (fun h => ?_) (fun h => ?_) ho, hS.setge, hS.nil, ?_, hS.r17lt, ?_, hS.svs, hS.len, (hS.bel.trans (hM.below hS.bel.size fun b h => by have := hge b h; have := hS.B2le.1; omega)).setCell hS.vbge.1 _, ?_, ⟨hS.B2le.1, ?_⟩, ?_⟩
  · rcases hS.set with ⟨h', _⟩ | ⟨s, h', hs⟩
    · rw [h'] at e; cases e
    · rw [h'] at e; cases e; exact hs.ne hS.blk h.symm
  · have := hge b h
    have := (hS.setge b e).2
    omega
  · exact row_kept hS.r17 fun q o hq ho => hk q o (fun h => row_ne hS.r17 hq hS.blk (by decide) h.symm) (fun h => by have := hge q h; have := hS.r17lt q hq; omega) ho
  · exact row_kept hS.r18 fun q o hq ho => hk q o (fun h => row_ne hS.r18 hq hS.blk (by decide) h.symm) (fun h => rows_apart hS.r18 hS.look (by decide) hq h) ho
  · exact row_kept hS.names fun q o hq ho => hk q o (fun h => row_ne hS.names hq hS.blk (by decide) h.symm) (fun h => rows_apart hS.names hS.look (by decide) hq h) ho
  · have := hM.size
    have := hS.B2le.2
    simp only [World.size_setCell]
    omega
  · rw [List.replicate_succ']
    exact own_keep hown fun o ho => blk_set ho (by obtain ⟨cur, hc, _⟩ := own_blk hown; exact ne_of_type hc hv2 (by decide)) _

/-- What stages 1 and 2 leave behind, below B3, beside the block of the Vars. -/
structure Base (w x : World) (vb n0 B2 B3 : Nat) (sv nv u17 u18 : Value) (A : AL) : Prop where
  vbge : w.heap.size ≤ vb ∧ vb < B2
  B2le : w.heap.size ≤ B2 ∧ B2 ≤ B3
  set : MapAt x sv A
  setge : ∀ s, sv = .map (some s) → w.heap.size ≤ s ∧ s < B2
  nil : A = [] → sv = .map none
  r17 : x.ownsRow w.heap.size 9 1 u17 A.length (A.map keyV)
  r17lt : ∀ q, u17.ownBlock = some q → q < B2
  r18 : x.ownsRow w.heap.size 71 2 u18 A.length (flat A)
  r18lt : ∀ q, u18.ownBlock = some q → q < B3
  names : x.ownsRow B2 9 1 nv A.length (A.map keyV)
  namelt : ∀ q, nv.ownBlock = some q → q < B3
  svs : Svs A
  len : A.length ≤ n0

theorem Base.keep {w x x' : World} {vb n0 B2 B3 : Nat} {sv nv u17 u18 : Value} {A : AL} (h : Base w x vb n0 B2 B3 sv nv u17 u18 A) {cs : Array Value} (hv : x.heap[vb]? = some (.cells cs 66))
    (hk : ∀ b o, b < B3 → b ≠ vb → x.heap[b]? = some o → x'.heap[b]? = some o) : Base w x' vb n0 B2 B3 sv nv u17 u18 A := by
  have hb := h.B2le
  refine ⟨h.vbge, h.B2le, h.set.kept fun b o e ho => hk b o (by have := (h.setge b e).2; omega) (fun hh => ?_) ho, h.setge, h.nil, row_kept h.r17 fun q o hq ho => hk q o (by have := h.r17lt q hq; omega) (fun hh => row_ne h.r17 hq hv (by decide) hh.symm) ho, h.r17lt,
    row_kept h.r18 fun q o hq ho => hk q o (h.r18lt q hq) (fun hh => row_ne h.r18 hq hv (by decide) hh.symm) ho, h.r18lt, row_kept h.names fun q o hq ho => hk q o (h.namelt q hq) (fun hh => row_ne h.names hq hv (by decide) hh.symm) ho, h.namelt, h.svs, h.len⟩
  rcases h.set with ⟨h', _⟩ | ⟨s, h', hs⟩
  · rw [h'] at e; cases e
  · rw [h'] at e; cases e; exact hs.ne hv hh.symm

theorem St2.base {w x : World} {vb n0 B2 i : Nat} {by_ : Int} {sv nv lv u17 u18 fnv : Value} {A : AL} (h : St2 w x vb n0 B2 i by_ sv nv lv u17 u18 fnv A) : Base w x vb n0 B2 x.heap.size sv nv u17 u18 A :=
  ⟨h.vbge, h.B2le, h.set, h.setge, h.nil, h.r17, h.r17lt, h.r18, fun q hq => (h.r18.lt q hq).2, h.names, fun q hq => (h.names.lt q hq).2, h.svs, h.len⟩

/-- The state in stage 3. -/
structure St3 (w x : World) (vb n0 n2 B2 B3 : Nat) (by_ : Int) (sv nv lv fv u17 u18 u24 u25 : Value) (A F : AL) : Prop where
  blk : x.heap[vb]? = some (.cells (vsCells sv nv lv (.map none) (.map none) fv by_) 66)
  base : Base w x vb n0 B2 B3 sv nv u17 u18 A
  bel : Below w.heap.size w x
  B3le : B3 ≤ x.heap.size
  found : MapAt x fv F
  foundge : ∀ s, fv = .map (some s) → B3 ≤ s
  r24 : x.ownsRow B3 9 1 u24 F.length (F.map keyV)
  r25 : x.ownsRow B3 43 1 u25 F.length (F.map (·.2))
  ptrs : ∀ p ∈ F, ∃ nb, p.2 = ptr nb
  nd : ND F
  flen : F.length ≤ n2

theorem St3.made {w wr : World} {vb n0 n2 B2 B3 i : Nat} {by_ : Int} {sv nv lv u17 u18 fnv : Value} {A : AL} (h : St2 w wr vb n0 B2 i by_ sv nv lv u17 u18 fnv A) (hB3 : B3 = wr.heap.size) (hba : Base w wr vb n0 B2 B3 sv nv u17 u18 A) :
    St3 w ((wr.alloc (.map #[] 0)).setCell ⟨vb, 5, none⟩ (.map (some wr.heap.size))) vb n0 n2 B2 B3 by_ sv nv lv (.map (some wr.heap.size)) u17 u18 (.slice none 0 0) (.slice none 0 0) A [] := by
  have hlt := blk_lt h.blk
  refine ⟨blk_same (blk_alloc h.blk _) 5 _, hba.keep h.blk fun b o h1 h2 ho => blk_set (blk_alloc ho _) h2 _, (h.bel.alloc h.bel.size _).setCell h.vbge.1 _, by simp only [World.size_setCell, World.size_alloc]; omega, .inr ⟨_, rfl, (StrMap.made wr).kept fun o ho => blk_set ho (by show wr.heap.size ≠ vb; omega) _⟩, fun s e => ?_, World.ownsRow_nil _ _ _ _, World.ownsRow_nil _ _ _ _, fun _ h => (nomatch h), List.nodup_nil, by simp⟩
  simp at e
  omega

theorem snd_set : ∀ (F : AL) (k : ByteArray) (v : Value) (j : Nat), (F.set j (k, v)).map (·.2) = (F.map (·.2)).set j v := fun F k v j => by rw [List.map_set]

theorem ptrs_put {F : AL} (h : ∀ p ∈ F, ∃ nb, p.2 = ptr nb) (k : ByteArray) (nb : Nat) : ∀ p ∈ put F k (ptr nb), ∃ nb, p.2 = ptr nb := fun q hq => by
  rcases put_mem hq with h1 | rfl
  · exact h q h1
  · exact ⟨nb, rfl⟩

theorem setRow1 {w : World} {B e g n cap j : Nat} {v : Value} {xs : List Value} (h : w.ownsRow B e 1 (.slice (some ⟨g, 0, none⟩) n cap) n xs) : (w.setCell ⟨g, j, none⟩ v).ownsRow B e 1 (.slice (some ⟨g, 0, none⟩) n cap) n (xs.set j v) := by
  obtain ⟨cur, hc, hB, h1, h2, h3, h4⟩ := own_blk h
  have := own_mk (n := n) (size := 1) (blk_same hc j v) hB h1 h2 (by simpa using h3)
  rw [← h4]
  have e : ((cur.setIfInBounds j v).toList.take (n * 1)) = (cur.toList.take (n * 1)).set j v := by
    simp only [Array.toList_setIfInBounds, List.take_set]
  rw [← e]
  exact this

theorem st3_old {w wr Y : World} {vb n0 n2 B2 B3 fm j g cap nb : Nat} {by_ : Int} {sv nv lv u17 u18 u24 u25 v0 : Value} {A F : AL} {k : ByteArray} (hS : St3 w wr vb n0 n2 B2 B3 by_ sv nv lv (.map (some fm)) u17 u18 u24 u25 A F) (hM : Moved wr Y (fun b => b = fm))
    (hv : Y.heap[vb]? = some (.cells (vsCells sv nv lv (.map none) (.map none) (.map (some fm)) by_) 66)) (hm : StrMap Y fm (put F k (ptr nb)))
    (h24 : Y.ownsRow B3 9 1 u24 F.length (F.map keyV)) (h25 : Y.ownsRow B3 43 1 (.slice (some ⟨g, 0, none⟩) F.length cap) F.length (F.map (·.2))) (hfi : SM.fidx F k = some (j, v0)) :
    St3 w (Y.setCell ⟨g, j, none⟩ (ptr nb)) vb n0 n2 B2 B3 by_ sv nv lv (.map (some fm)) u17 u18 u24 (.slice (some ⟨g, 0, none⟩) F.length cap) A (put F k (ptr nb)) := by
  obtain ⟨cur, hc, hB, _⟩ := own_blk h25
  have hge := hS.foundge fm rfl
  have hb2 := hS.base.B2le
  have hbY : Below w.heap.size w Y := hS.bel.trans (hM.below hS.bel.size fun b e => by subst e; omega)
  have hk2 : ∀ b o, b ≠ g → Y.heap[b]? = some o → (Y.setCell ⟨g, j, none⟩ (ptr nb)).heap[b]? = some o := fun b o hne ho => blk_set ho hne _
  have hko := keys_old (v := ptr nb) (look_hit hfi)
  have hsz := hM.size
  have hB3 := hS.B3le
  refine ⟨hk2 _ _ (ne_of_type hv hc (by decide)) hv, hS.base.keep hS.blk fun b o h1 h2 ho => hk2 b o (by omega) (hM.blk ho (by omega)), hbY.setCell (by show w.heap.size ≤ g; omega) _, by simp only [World.size_setCell]; omega, .inr ⟨fm, rfl, hm.kept fun o ho => hk2 _ _ (fun e => hm.ne hc e.symm) ho⟩, hS.foundge, ?_, ?_, ptrs_put hS.ptrs _ _, hS.nd.put _ _, by rw [hko.1]; exact hS.flen⟩
  · rw [hko.1, hko.2]
    exact row_kept h24 fun q o hq ho => hk2 _ _ (fun e => row_ne h24 hq hc (by decide) e.symm) ho
  · rw [SM.put_some F k _ j v0 hfi, List.length_set, snd_set]
    exact setRow1 h25

theorem st3_new {w wr Y Y1 Y2 : World} {vb n0 n2 B2 B3 fm nb g24 c24 g25 c25 : Nat} {by_ : Int} {sv nv lv u17 u18 u24 u25 : Value} {A F : AL} {k : ByteArray} {o2 : Obj} (hS : St3 w wr vb n0 n2 B2 B3 by_ sv nv lv (.map (some fm)) u17 u18 u24 u25 A F) (hM : Moved wr Y (fun b => b = fm))
    (hv : Y.heap[vb]? = some (.cells (vsCells sv nv lv (.map none) (.map none) (.map (some fm)) by_) 66)) (hm : StrMap Y fm (put F k (ptr nb)))
    (h24 : Y.ownsRow B3 9 1 u24 F.length (F.map keyV)) (h25 : Y1.ownsRow B3 43 1 u25 F.length (F.map (·.2))) (hfi : SM.fidx F k = none) (hlen : F.length + 1 ≤ n2)
    (hM1 : Moved Y Y1 (fun b => u24.ownBlock = some b)) (ho1 : Y1.ownsRow B3 9 1 (.slice (some ⟨g24, 0, none⟩) (F.length + 1) c24) (F.length + 1) (F.map keyV ++ [.string k]))
    (hg2 : (Y1.alloc o2).grownBy Y2 u25.ownBlock) (ho2 : Y2.ownsRow B3 43 1 (.slice (some ⟨g25, 0, none⟩) (F.length + 1) c25) (F.length + 1) (F.map (·.2) ++ [.pointer (some ⟨nb, 0, none⟩)])) :
    St3 w Y2 vb n0 n2 B2 B3 by_ sv nv lv (.map (some fm)) u17 u18 (.slice (some ⟨g24, 0, none⟩) (F.length + 1) c24) (.slice (some ⟨g25, 0, none⟩) (F.length + 1) c25) A (put F k (ptr nb)) := by
  have hM2 : Moved Y1 Y2 (fun b => u25.ownBlock = some b) := (Moved.alloc Y1 _ _).trans (Moved.of_grown hg2) fun i h => .inl h
  have hge := hS.foundge fm rfl
  have hb2 := hS.base.B2le
  have hbY : Below w.heap.size w Y := hS.bel.trans (hM.below hS.bel.size fun b e => by subst e; omega)
  have hv1 := hM1.blk hv fun e => row_ne h24 e hv (by decide) rfl
  have hm1 : StrMap Y1 fm (put F k (ptr nb)) := hm.kept fun o ho => hM1.blk ho fun e => row_ne_map h24 e hm rfl
  have hkn := keys_new (v := ptr nb) (look_miss hfi)
  obtain ⟨cur24, hc24, hB24, _⟩ := own_blk ho1
  have hlt24 : ∀ q, u24.ownBlock = some q → B3 ≤ q := fun q hq => (h24.lt q hq).1
  have hlt25 : ∀ q, u25.ownBlock = some q → B3 ≤ q := fun q hq => (h25.lt q hq).1
  have hb1 : Below w.heap.size w Y1 := hbY.trans (hM1.below hbY.size fun b h => by have := hlt24 b h; omega)
  have hs1 := hM.size
  have hs2 := hM1.size
  have hs3 := hM2.size
  have hB3 := hS.B3le
  refine ⟨hM2.blk hv1 fun e => row_ne h25 e hv1 (by decide) rfl, hS.base.keep hS.blk fun b o h1 h2 ho => hM2.blk (hM1.blk (hM.blk ho (by omega)) fun h => by have := hlt24 b h; omega) fun h => by have := hlt25 b h; omega, hb1.trans (hM2.below hb1.size fun b h => by have := hlt25 b h; omega), by omega, .inr ⟨fm, rfl, hm1.kept fun o ho => hM2.blk ho fun e => row_ne_map h25 e hm1 rfl⟩, hS.foundge, ?_, ?_, ptrs_put hS.ptrs _ _, hS.nd.put _ _, ?_⟩
  · rw [hkn]
    simp only [List.length_append, List.length_singleton, List.map_append, List.map_cons, List.map_nil]
    exact own_keep ho1 fun o ho => hM2.blk ho fun e => row_ne h25 e hc24 (by decide) rfl
  · rw [hkn]
    simpa [ptr] using ho2
  · rw [hkn]
    simpa using hlen

def sKey : ByteArray := { data := #[115] }
def gKey : ByteArray := { data := #[103] }

/-- What stages 1 to 4 leave behind, below B4. -/
structure Mid (w x : World) (vb n0 n2 B2 B3 B4 sn stb sgb : Nat) (by_ : Int) (sv nv lv fv u17 u18 u24 u25 : Value) (A F : AL) : Prop where
  blk : x.heap[vb]? = some (.cells (vsCells sv nv lv (.map (some stb)) (.map (some sgb)) fv by_) 66)
  base : Base w x vb n0 B2 B3 sv nv u17 u18 A
  bel : Below w.heap.size w x
  B4le : B3 ≤ sn ∧ sn < B4 ∧ B4 ≤ x.heap.size
  found : MapAt x fv F
  foundge : ∀ s, fv = .map (some s) → B3 ≤ s ∧ s < sn
  r24 : x.ownsRow B3 9 1 u24 F.length (F.map keyV)
  r24lt : ∀ q, u24.ownBlock = some q → q < sn
  r25 : x.ownsRow B3 43 1 u25 F.length (F.map (·.2))
  r25lt : ∀ q, u25.ownBlock = some q → q < sn
  ptrs : ∀ p ∈ F, ∃ nb, p.2 = ptr nb
  nd : ND F
  flen : F.length ≤ n2
  snode : x.heap[sn]? = some (.cells (nodeCells 1 sKey (.slice none 0 0)) 49)
  smap : StrMap x stb [(sKey, ptr sn)]
  gmap : StrMap x sgb [(gKey, .bool true)]
  sg : sn < stb ∧ stb < B4 ∧ sn < sgb ∧ sgb < B4

theorem Mid.keep {w x x' : World} {vb n0 n2 B2 B3 B4 sn stb sgb : Nat} {by_ : Int} {sv nv lv fv u17 u18 u24 u25 : Value} {A F : AL} (h : Mid w x vb n0 n2 B2 B3 B4 sn stb sgb by_ sv nv lv fv u17 u18 u24 u25 A F)
    (hb : Below w.heap.size x x') (hk : ∀ b o, b < B4 → x.heap[b]? = some o → x'.heap[b]? = some o) : Mid w x' vb n0 n2 B2 B3 B4 sn stb sgb by_ sv nv lv fv u17 u18 u24 u25 A F := by
  have h1 := h.B4le
  have h2 := h.sg
  have h3 := h.base.B2le
  have h4 := h.base.vbge
  have h5 := hb.size
  refine ⟨hk _ _ (by omega) h.blk, h.base.keep h.blk fun b o h1 _ ho => hk b o (by omega) ho, h.bel.trans hb, ⟨h1.1, h1.2.1, by omega⟩, h.found.kept fun b o e ho => hk b o (by have := h.foundge b e; omega) ho, h.foundge, row_kept h.r24 fun q o hq ho => hk q o (by have := h.r24lt q hq; omega) ho, h.r24lt,
    row_kept h.r25 fun q o hq ho => hk q o (by have := h.r25lt q hq; omega) ho, h.r25lt, h.ptrs, h.nd, h.flen, hk _ _ (by omega) h.snode, h.smap.kept fun o ho => hk _ _ (by omega) ho, h.gmap.kept fun o ho => hk _ _ (by omega) ho, h.sg⟩

theorem Mid.start {w wr X1 X2 X3 X5 : World} {vb n0 n2 B2 B3 sn stb sgb : Nat} {by_ : Int} {sv nv lv fv u17 u18 u24 u25 : Value} {A F : AL} (h : St3 w wr vb n0 n2 B2 B3 by_ sv nv lv fv u17 u18 u24 u25 A F)
    (hsn : sn = wr.heap.size) (hX1 : X1 = wr.alloc (.cells (nodeCells 1 sKey (.slice none 0 0)) 49)) (hstb : stb = X1.heap.size) (hm2 : StrMap X2 stb [(sKey, ptr sn)]) (hg2 : (X1.alloc (.map #[] 0)).grownBy X2 (some stb))
    (hX3 : X3 = X2.setCell ⟨vb, 3, none⟩ (.map (some stb))) (hsgb : sgb = X3.heap.size) (hm5 : StrMap X5 sgb [(gKey, .bool true)]) (hg5 : (X3.alloc (.map #[] 0)).grownBy X5 (some sgb)) :
    Mid w (X5.setCell ⟨vb, 4, none⟩ (.map (some sgb))) vb n0 n2 B2 B3 X5.heap.size sn stb sgb by_ sv nv lv fv u17 u18 u24 u25 A F := by
  have h1 := h.base.B2le
  have h2 := h.base.vbge
  have h3 := h.B3le
  have hvlt := blk_lt h.blk
  have s1 : X1.heap.size = wr.heap.size + 1 := by rw [hX1]; simp
  have s2 := hg2.size
  rw [World.size_alloc] at s2
  have s3 : X3.heap.size = X2.heap.size := by rw [hX3]; simp
  have s5 := hg5.size
  rw [World.size_alloc] at s5
  have hMa : Moved wr X2 (fun b => wr.heap.size ≤ b) := by
    have hA1 : Moved wr X1 (fun b => wr.heap.size ≤ b) := by rw [hX1]; exact Moved.alloc _ _ _
    refine hA1.trans ((Moved.alloc X1 _ (fun b => some stb = some b)).trans (Moved.of_grown hg2) fun i h => .inl h) fun i hi => .inl ?_
    cases hi
    omega
  have hMb : Moved X3 X5 (fun b => X3.heap.size ≤ b) := by
    refine (Moved.alloc X3 _ _).trans (Moved.of_grown hg5) fun i hi => .inl ?_
    cases hi
    omega
  have hold : ∀ b o, b < wr.heap.size → b ≠ vb → wr.heap[b]? = some o → (X5.setCell ⟨vb, 4, none⟩ (.map (some sgb))).heap[b]? = some o := fun b o h1 h2 ho => by
    refine blk_set (hMb.blk (b := b) (o := o) ?_ (by omega)) h2 _
    rw [hX3]
    exact blk_set (hMa.blk ho (by omega)) h2 _
  have hvX2 := hMa.blk h.blk (by omega)
  have hvX3 : X3.heap[vb]? = some (.cells (vsCells sv nv lv (.map (some stb)) (.map none) fv by_) 66) := by rw [hX3]; exact blk_same hvX2 3 _
  have hvX5 := hMb.blk hvX3 (by omega)
  have hbel : Below w.heap.size w X5 := by
    have hb2 : Below w.heap.size w X2 := h.bel.trans (hMa.below h.bel.size fun b hb => by omega)
    have hb3 : Below w.heap.size w X3 := by rw [hX3]; exact hb2.setCell h2.1 _
    exact hb3.trans (hMb.below hb3.size fun b hb => by have := hb3.size; omega)
  have fne : ∀ s, fv = .map (some s) → s < wr.heap.size ∧ s ≠ vb := fun s e => by
    rcases h.found with ⟨h', _⟩ | ⟨s', h', hs⟩
    · rw [h'] at e; cases e
    · rw [h'] at e; cases e; exact ⟨hs.lt, fun hh => hs.ne h.blk hh.symm⟩
  refine ⟨blk_same hvX5 4 _, h.base.keep h.blk fun b o h1 h2 ho => hold b o (by omega) h2 ho, hbel.setCell h2.1 _, ⟨by omega, by omega, by simp⟩, h.found.kept fun b o e ho => hold b o (fne b e).1 (fne b e).2 ho, fun s e => ⟨h.foundge s e, by have := (fne s e).1; omega⟩, row_kept h.r24 fun q o hq ho => hold q o (blk_lt ho) (fun hh => row_ne h.r24 hq h.blk (by decide) hh.symm) ho, fun q hq => by have := (h.r24.lt q hq).2; omega,
    row_kept h.r25 fun q o hq ho => hold q o (blk_lt ho) (fun hh => row_ne h.r25 hq h.blk (by decide) hh.symm) ho, fun q hq => by have := (h.r25.lt q hq).2; omega, h.ptrs, h.nd, h.flen, ?_, ?_, ?_, ⟨by omega, by omega, by omega, by omega⟩⟩
  · refine blk_set (hMb.blk (b := sn) ?_ (by omega)) (by show sn ≠ vb; omega) _
    rw [hX3]
    refine blk_set (blk_grown (blk_alloc (b := sn) ?_ _) hg2 (by intro e; cases e; omega)) (by show sn ≠ vb; omega) _
    rw [hX1, hsn]
    exact blk_new _ _
  · refine hm2.kept fun o ho => blk_set (hMb.blk (b := stb) ?_ (by omega)) (by show stb ≠ vb; omega) _
    rw [hX3]
    exact blk_set ho (by show stb ≠ vb; omega) _
  · exact hm5.kept fun o ho => blk_set ho (by show sgb ≠ vb; omega) _

/-- The values node while it is filled. -/
structure CT (x : World) (rb B4 m : Nat) (cp : Option Addr) (cc : Nat) (C : Nat → Nat) (T : Nat → ByteArray) : Prop where
  blk : x.heap[rb]? = some (.cells (nodeCells 2 ByteArray.empty (.slice cp m cc)) 49)
  rbge : B4 ≤ rb
  row : x.ownsRow B4 43 1 (.slice cp m cc) m (vals m fun i => ptr (C i))
  node : ∀ i, i < m → x.heap[C i]? = some (.cells (nodeCells 1 (T i) (.slice none 0 0)) 49) ∧ rb < C i

theorem vals_more (m : Nat) (C : Nat → Nat) (news : List Nat) : vals (m + news.length) (fun i => ptr (if i < m then C i else news.getD (i - m) 0)) = vals m (fun i => ptr (C i)) ++ news.map ptr := by
  apply List.ext_getElem?
  intro i
  by_cases h : i < m
  · rw [vals_get _ _ _ (by omega), List.getElem?_append_left (by simp [vals]; omega), vals_get _ _ _ h, if_pos h]
  · rw [List.getElem?_append_right (by simp [vals]; omega), vals_len]
    by_cases h2 : i - m < news.length
    · rw [vals_get _ _ _ (by omega), if_neg h]
      simp [h2]
    · rw [List.getElem?_eq_none (by simp [vals]; omega), List.getElem?_eq_none (by simp; omega)]

theorem ct_fin {w wr x : World} {vb n0 n2 B2 B3 B4 sn stb sgb : Nat} {by_ : Int} {sv nv lv fv u17 u18 u24 u25 : Value} {A F : AL} {rb m : Nat} {cp : Option Addr} {cc : Nat} {C : Nat → Nat} {T : Nat → ByteArray} {news : List Nat} {g cap : Nat}
    (hM : Mid w wr vb n0 n2 B2 B3 B4 sn stb sgb by_ sv nv lv fv u17 u18 u24 u25 A F) (hC : CT wr rb B4 m cp cc C T) (hMx : Moved wr x (fun b => (Value.slice cp m cc).ownBlock = some b ∨ b = rb))
    (hnew : ∀ i, i < news.length → x.heap[news.getD i 0]? = some (.cells (nodeCells 1 (T (m + i)) (.slice none 0 0)) 49) ∧ wr.heap.size ≤ news.getD i 0)
    (hrx : x.heap[rb]? = some (.cells (nodeCells 2 ByteArray.empty (.slice (some ⟨g, 0, none⟩) (m + news.length) cap)) 49)) (hown : x.ownsRow B4 43 1 (.slice (some ⟨g, 0, none⟩) (m + news.length) cap) (m + news.length) (vals m (fun i => ptr (C i)) ++ news.map ptr)) :
    Mid w x vb n0 n2 B2 B3 B4 sn stb sgb by_ sv nv lv fv u17 u18 u24 u25 A F ∧ ∃ C', CT x rb B4 (m + news.length) (some ⟨g, 0, none⟩) cap C' T := by
  have h1 := hM.B4le
  have h2 := hM.base.B2le
  have h3 := hC.rbge
  have hrl := blk_lt hC.blk
  have hlt : ∀ q, (Value.slice cp m cc).ownBlock = some q → B4 ≤ q ∧ q < wr.heap.size := fun q hq => hC.row.lt q hq
  have hbx : Below w.heap.size wr x := hMx.below hM.bel.size fun b e => by
    rcases e with e | e
    · have := hlt b e; omega
    · omega
  refine ⟨hM.keep hbx fun b o h1 ho => hMx.blk ho fun e => ?_, fun i => if i < m then C i else news.getD (i - m) 0, hrx, h3, ?_, fun i hi => ?_⟩
  · rcases e with e | e
    · have := hlt b e; omega
    · omega
  · rw [vals_more]
    exact hown
  · by_cases h : i < m
    · simp only [if_pos h]
      obtain ⟨a1, a2⟩ := hC.node i h
      refine ⟨hMx.blk a1 fun e => ?_, a2⟩
      rcases e with e | e
      · exact row_ne hC.row e a1 (by decide) rfl
      · omega
    · simp only [if_neg h]
      obtain ⟨a1, a2⟩ := hnew (i - m) (by omega)
      rw [show m + (i - m) = i by omega] at a1
      exact ⟨a1, by omega⟩

def oddText : ByteArray := { data := #[111, 100, 100] }
/-- The text of the i-th node of the values node. -/
def textOf (ks vs : Nat → ByteArray) (n3 n4 i : Nat) : ByteArray := if i = 2 * n3 then oddText else if i % 2 = 0 then ks (i / 2) else valOf n4 vs (i / 2)
theorem textOf_key {ks vs : Nat → ByteArray} {n3 n4 k : Nat} (h : k < n3) : textOf ks vs n3 n4 (2 * k) = ks k := by
  unfold textOf
  rw [if_neg (by omega), if_pos (by omega), show 2 * k / 2 = k by omega]
theorem textOf_val {ks vs : Nat → ByteArray} {n3 n4 k : Nat} : textOf ks vs n3 n4 (2 * k + 1) = valOf n4 vs k := by
  unfold textOf
  rw [if_neg (by omega), if_neg (by omega), show (2 * k + 1) / 2 = k by omega]
theorem textOf_odd {ks vs : Nat → ByteArray} {n3 n4 : Nat} : textOf ks vs n3 n4 (2 * n3) = oddText := by unfold textOf; rw [if_pos rfl]

theorem StrsAt.keep {w w' : World} {v : Value} {n : Nat} {s : Nat → ByteArray} (h : StrsAt w v n s) {B : Nat} (hB : w.heap.size ≤ B) (hb : Below B w w') : StrsAt w' v n s := RowAt.keep' (V := fun k => .string (s k)) h (hb.mono hB)

/-- The state behind SetAll; it is only read from here on. -/
structure Fin6 (w x : World) (vb B2 B3 B5 rb m sn stb sgb : Nat) (by_ : Int) (sv nv lv fv u17 u18 u24 u25 u34 : Value) (cp : Option Addr) (cc : Nat) (C : Nat → Nat) (T : Nat → ByteArray) (A F A' F' : AL) : Prop where
  blk : x.heap[vb]? = some (.cells (vsCells sv nv lv (.map (some stb)) (.map (some sgb)) fv by_) 66)
  set : MapAt x sv A'
  names : x.ownsRow B2 9 1 nv A'.length (A'.map keyV)
  found : MapAt x fv F'
  root : RootAt x rb m cp cc C T
  r17 : x.ownsRow w.heap.size 9 1 u17 A.length (A.map keyV)
  r18 : x.ownsRow w.heap.size 71 2 u18 A.length (flat A)
  r24 : x.ownsRow B3 9 1 u24 F.length (F.map keyV)
  r25 : x.ownsRow B3 43 1 u25 F.length (F.map (·.2))
  r34 : x.ownsRow B5 43 1 u34 m (vals m fun i => ptr (C i))
  snode : x.heap[sn]? = some (.cells (nodeCells 1 sKey (.slice none 0 0)) 49)
  smap : StrMap x stb [(sKey, ptr sn)]
  gmap : StrMap x sgb [(gKey, .bool true)]
  bel : Below w.heap.size w x

theorem Fin6.keep {w x x' : World} {vb B2 B3 B5 rb m sn stb sgb : Nat} {by_ : Int} {sv nv lv fv u17 u18 u24 u25 u34 : Value} {cp : Option Addr} {cc : Nat} {C : Nat → Nat} {T : Nat → ByteArray} {A F A' F' : AL}
    (h : Fin6 w x vb B2 B3 B5 rb m sn stb sgb by_ sv nv lv fv u17 u18 u24 u25 u34 cp cc C T A F A' F') (hb : Below x.heap.size x x') : Fin6 w x' vb B2 B3 B5 rb m sn stb sgb by_ sv nv lv fv u17 u18 u24 u25 u34 cp cc C T A F A' F' := by
  have hk : ∀ b o, x.heap[b]? = some o → x'.heap[b]? = some o := fun b o ho => blk_below ho hb (blk_lt ho)
  exact ⟨hk _ _ h.blk, h.set.kept fun b o _ ho => hk _ _ ho, row_kept h.names fun _ _ _ ho => hk _ _ ho, h.found.kept fun b o _ ho => hk _ _ ho, h.root.keep fun b cs t _ _ ho => hk _ _ ho, row_kept h.r17 fun _ _ _ ho => hk _ _ ho, row_kept h.r18 fun _ _ _ ho => hk _ _ ho,
    row_kept h.r24 fun _ _ _ ho => hk _ _ ho, row_kept h.r25 fun _ _ _ ho => hk _ _ ho, row_kept h.r34 fun _ _ _ ho => hk _ _ ho, hk _ _ h.snode, h.smap.kept fun o ho => hk _ _ ho, h.gmap.kept fun o ho => hk _ _ ho, h.bel.trans (hb.mono h.bel.size)⟩

theorem CT.root {x : World} {rb B4 m : Nat} {cp : Option Addr} {cc : Nat} {C : Nat → Nat} {T : Nat → ByteArray} (h : CT x rb B4 m cp cc C T) : RootAt x rb m cp cc C T := by
  refine ⟨h.blk, fun i hi => ?_, fun i hi => (h.node i hi).1⟩
  obtain ⟨g, cap, e⟩ := Joins.ownsRow_form h.row (by omega)
  cases e
  obtain ⟨cur, hc, _, _, _, hsz, k4⟩ := own_blk h.row
  refine ⟨g, cur, rfl, hc, ?_⟩
  have h1 := vals_get m (fun i => ptr (C i)) i hi
  rw [← k4, List.getElem?_take_of_lt (by omega)] at h1
  simpa using h1

theorem CT.rowAt {x : World} {rb B4 m : Nat} {cp : Option Addr} {cc : Nat} {C : Nat → Nat} {T : Nat → ByteArray} (h : CT x rb B4 m cp cc C T) (hm : m ≤ 100000) : RowAt x (.slice cp m cc) m (fun i => ptr (C i)) := by
  refine ⟨cp, cc, rfl, hm, fun i hi => ?_⟩
  obtain ⟨g, cur, e, hc, hi2⟩ := h.root.row i hi
  exact ⟨g, 0, e, blk_lt hc, by rw [cell_of_row _ _ _ _ _ _ hc, Nat.zero_add]; exact hi2⟩

theorem Mid.vars {w x : World} {vb n0 n2 B2 B3 B4 sn stb sgb : Nat} {by_ : Int} {sv nv lv fv u17 u18 u24 u25 : Value} {A F : AL} (h : Mid w x vb n0 n2 B2 B3 B4 sn stb sgb by_ sv nv lv fv u17 u18 u24 u25 A F) :
    VarsAt x vb B2 sv nv lv (.map (some stb)) (.map (some sgb)) fv by_ A F :=
  ⟨h.blk, h.base.set, h.base.names, h.found, fun b e1 e2 => by have := h.base.setge b e1; have := h.foundge b e2; have := h.base.B2le; omega⟩

theorem Fin6.start {w x x2 x3 : World} {vb n0 n2 B2 B3 B4 sn stb sgb rb m nl : Nat} {by_ : Int} {sv nv lv fv sv' nv' u17 u18 u24 u25 u34 : Value} {A F A' F' : AL} {cp : Option Addr} {cc : Nat} {C : Nat → Nat} {T : Nat → ByteArray}
    (h : Mid w x vb n0 n2 B2 B3 B4 sn stb sgb by_ sv nv lv fv u17 u18 u24 u25 A F) (hC : CT x rb B4 m cp cc C T) (hb : Below x.heap.size x x2) (h34 : x2.ownsRow x.heap.size 43 1 u34 m (vals m fun i => ptr (C i)))
    (hV : VarsAt x3 vb B2 sv' nv' lv (.map (some stb)) (.map (some sgb)) fv by_ A' F') (hM : Moved x2 x3 (fun b => b = vb ∨ sv = .map (some b) ∨ nv.ownBlock = some b ∨ fv = .map (some b))) (hK : Keeps x2 x3) :
    Fin6 w x3 vb B2 B3 x.heap.size rb m sn stb sgb by_ sv' nv' lv fv u17 u18 u24 u25 u34 cp cc C T A F A' F' := by
  have hk : ∀ b o, x.heap[b]? = some o → x2.heap[b]? = some o := fun b o ho => blk_below ho hb (blk_lt ho)
  have h2 : Mid w x2 vb n0 n2 B2 B3 B4 sn stb sgb by_ sv nv lv fv u17 u18 u24 u25 A F := h.keep (hb.mono h.bel.size) fun b o _ ho => hk b o ho
  have b1 := h.base.B2le
  have b2 := h.base.vbge
  have b3 := h.B4le
  have b4 := h.sg
  have rowK : ∀ {B e s n : Nat} {v : Value} {xs : List Value}, x2.ownsRow B e s v n xs → e ≠ 66 → e ≠ 9 → x3.ownsRow B e s v n xs := fun {B e s n v xs} ho h1 h2 => by
    rcases Joins.ownsRow_forms ho with ⟨rfl, rfl⟩ | ⟨g, cap, rfl⟩
    · exact ⟨ho.1, .inl ⟨rfl, rfl⟩⟩
    · exact own_keep ho fun o hg => by
        obtain ⟨cur, hc, _⟩ := own_blk ho
        rw [hc] at hg
        cases hg
        exact hK _ _ _ h1 h2 hc
  have row9 : ∀ {B n : Nat} {v : Value} {xs : List Value}, x2.ownsRow B 9 1 v n xs → (∀ q, v.ownBlock = some q → nv.ownBlock ≠ some q) → x3.ownsRow B 9 1 v n xs := fun {B n v xs} ho hne => row_kept ho fun g o hg hgo => hM.blk hgo (by
    rintro (e | e | e | e)
    · exact row_ne ho hg h2.blk (by decide) e.symm
    · rcases h2.base.set with ⟨e', _⟩ | ⟨s, e', hs⟩
      · rw [e'] at e; cases e
      · rw [e'] at e; cases e; exact row_ne_map ho hg hs rfl
    · exact hne g hg e
    · rcases h2.found with ⟨e', _⟩ | ⟨s, e', hs⟩
      · rw [e'] at e; cases e
      · rw [e'] at e; cases e; exact row_ne_map ho hg hs rfl)
  have mapK : ∀ {s : Nat} {M : AL}, StrMap x2 s M → sn < s → StrMap x3 s M := fun {s M} hs hlt => hs.kept fun o ho => hM.blk ho (by
    rintro (e | e | e | e)
    · subst e; exact hs.ne h2.blk rfl
    · have := h.base.setge s e; omega
    · exact row_ne_map h2.base.names e hs rfl
    · have := h.foundge s e; omega)
  have hge : ∀ b, (b = vb ∨ sv = .map (some b) ∨ nv.ownBlock = some b ∨ fv = .map (some b)) → w.heap.size ≤ b := by
    rintro b (e | e | e | e)
    · omega
    · exact (h.base.setge b e).1
    · have := (h.base.names.lt b e).1; omega
    · have := h.foundge b e; omega
  refine ⟨hV.blk, hV.set, hV.names, hV.found, (hC.root.keep fun b cs t _ _ ho => hk _ _ ho).keep hK, row9 h2.base.r17 fun q hq e => ?_, rowK h2.base.r18 (by decide) (by decide), row9 h2.r24 fun q hq e => ?_, rowK h2.r25 (by decide) (by decide), rowK h34 (by decide) (by decide), hK _ _ _ (by decide) (by decide) h2.snode, mapK h2.smap b4.1, mapK h2.gmap b4.2.2.1, h2.bel.trans (hM.below h2.bel.size hge)⟩
  · have := (h.base.names.lt q e).1
    have := h.base.r17lt q hq
    omega
  · have := h.base.namelt q e
    have := (h.r24.lt q hq).1
    omega

theorem row_cell {w : World} {B e n c i : Nat} {p : Option Addr} {xs : List Value} {v : Value} (h : w.ownsRow B e 1 (.slice p n c) n xs) (hi : i < n) (hv : xs[i]? = some v) : ∃ g, p = some ⟨g, 0, none⟩ ∧ w.cell? ⟨g, i, none⟩ = some v := by
  obtain ⟨g, cap, e'⟩ := Joins.ownsRow_form h (by omega)
  cases e'
  obtain ⟨cur, hc, _, _, _, hsz, k4⟩ := own_blk h
  refine ⟨g, rfl, ?_⟩
  rw [← k4, List.getElem?_take_of_lt (by omega)] at hv
  rw [cell_of_row w g _ _ _ _ hc]
  simpa using hv
theorem neq43 (w : World) (a : Addr) : (binOp .neq 43 (.pointer (some a)) (.pointer (some a))).run Yba.prog w = .ok (.bool false) w := run_neq_ptr_same (te := 49) (j := 9) Yba.underlying43 (by kernel_rfl) w a

theorem eqPtr (w : World) (a : Addr) (d : Nat) : (Op.equalIn (d + 1) 43 (.pointer (some a)) (.pointer (some a))).run Yba.prog w = .ok true w := by
  obtain ⟨i, hi, _⟩ := Option.map_eq_some_iff.1 (by kernel_rfl : (Yba.prog.info? 49).map (fun i => i.size) = some 9)
  simp [Op.equalIn, run_underlying Yba.underlying43, sizeOf, typeInfo, hi, run_sameAddr_same]
set_option maxRecDepth 10000 in
theorem neq71 (w : World) (a : Addr) (n : Int) : (binOp .neq 71 (.agg #[.pointer (some a), .int .i64 n]) (.agg #[.pointer (some a), .int .i64 n])).run Yba.prog w = .ok (.bool false) w := by
  have h1 : ∀ w : World, (Op.equalIn 9999 43 (.pointer (some a)) (.pointer (some a))).run Yba.prog w = .ok true w := fun w => eqPtr w a 9998
  have h2 : ∀ w : World, (Op.equalIn 9999 3 (.int .i64 n) (.int .i64 n)).run Yba.prog w = .ok true w := fun w => by rw [run_equalIn_int w 9998 3 .i64 .i64 n n Yba.underlying3]; simp
  rw [run_neq_struct, run_equalIn_agg w 9999 71 _ _ (by kernel_rfl) (by kernel_rfl)]
  go_simp

theorem neq61n (w : World) : (binOp .neq 61 (.map none) (.map none)).run Yba.prog w = .ok (.bool false) w := by kernel_rfl

theorem sv_inj {a b : Nat} {x y : Int} (h : svOf a x = svOf b y) : a = b ∧ x = y := by
  simp only [svOf, Value.agg.injEq] at h
  cases h
  exact ⟨rfl, rfl⟩

theorem pair_cell {w : World} {B n c i nb : Nat} {p : Option Addr} {A : AL} {k : ByteArray} {af : Int} (h : w.ownsRow B 71 2 (.slice p n c) n (flat A)) (hs : Svs A) (hn : n = A.length) (hi : A[i]? = some (k, svOf nb af)) :
    ∃ g, p = some ⟨g, 0, none⟩ ∧ w.cell? ⟨g, i * 2, none⟩ = some (.pointer (some ⟨nb, 0, none⟩)) ∧ w.cell? ⟨g, i * 2 + 1, none⟩ = some (.int .i64 af) := by
  have hil : i < A.length := (List.getElem?_eq_some_iff.1 hi).1
  obtain ⟨g, cap, e'⟩ := Joins.ownsRow_form h (by omega)
  cases e'
  obtain ⟨cur, hc, _, _, _, hsz, k4⟩ := own_blk h
  obtain ⟨h1, h2⟩ := flat_get hs hi
  refine ⟨g, rfl, ?_, ?_⟩
  · rw [← k4, List.getElem?_take_of_lt (by omega)] at h1
    rw [cell_of_row w g _ _ _ _ hc]
    simpa [ptr] using h1
  · rw [← k4, List.getElem?_take_of_lt (by omega)] at h2
    rw [cell_of_row w g _ _ _ _ hc]
    simpa using h2

theorem zero43 (w : World) : (zeroValue 43).run Yba.prog w = .ok (.pointer none) w := by kernel_rfl
theorem zero4 (w : World) : (zeroValue 4).run Yba.prog w = .ok (.bool false) w := by kernel_rfl
theorem neq63n (w : World) : (binOp .neq 63 (.map none) (.map none)).run Yba.prog w = .ok (.bool false) w := by kernel_rfl
theorem eql63 (w : World) (m : Nat) : (binOp .eql 63 (.map (some m)) (.map none)).run Yba.prog w = .ok (.bool false) w := by kernel_rfl

/-- How many of the first k pairs are kept. -/
def cntOf (F : AL) (f : ByteArray × Value → Bool) (k : Nat) : Nat := ((F.take k).filter f).length
theorem cntOf_step {F : AL} {f : ByteArray × Value → Bool} {k : Nat} {p : ByteArray × Value} (h : F[k]? = some p) : cntOf F f (k + 1) = cntOf F f k + (if f p then 1 else 0) := by
  have hk : k < F.length := (List.getElem?_eq_some_iff.1 h).1
  unfold cntOf
  rw [List.take_add_one, h, List.filter_append, List.length_append]
  cases hf : f p <;> simp [hf]
theorem cntOf_end (F : AL) (f : ByteArray × Value → Bool) : cntOf F f F.length = (F.filter f).length := by unfold cntOf; rw [List.take_length]
theorem cntOf_le (F : AL) (f : ByteArray × Value → Bool) (k : Nat) : cntOf F f k ≤ F.length := by
  unfold cntOf
  exact Nat.le_trans (List.length_filter_le _ _) (by simp; omega)

end Go.Proofs.Ybulkexpby
