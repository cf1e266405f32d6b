/- LawS194118AWhole: byte slices: what came in, what the call owns; zzs194118aclone, zzs194118aeq. -/
import Derived.Test.YbulkexpecRows
import Derived.Test.YbulkexpecKit
import Derived.Test.YbulkexpecShelf
import Derived.Laws.CopyOwn
namespace Go.Proofs.Ybulkexpec
open Go.RowKit Go.PK

theorem Yba.info5 : (Yba.prog.info? 5).map (fun i => (i.zero, i.size, i.bytes)) = some (some (.int .u8 0), 1, 1) := by kernel_rfl

/-- A slice of bytes in memory, as data: nil, or its bytes. -/
def SrcIs (w : World) (v : Value) (z : Option (List Int)) : Prop :=
  (v = .slice none 0 0 ∧ z = none) ∨ ∃ (x : Addr) (c : Nat) (zs : List Int), v = .slice (some x) zs.length c ∧ z = some zs ∧ zs.length ≤ 140737488351232 ∧
    (∀ j, j < zs.length → x.block < w.heap.size ∧ w.cell? (x.add j) = some (.int .u8 (zs.getD j 0))) ∧ ∀ n ∈ zs, (Lit.int .u8 n).wf = true

/-- The same in a row of the call's own, from N on. -/
def AddrIs (N : Nat) (w : World) (v : Value) (z : Option (List Int)) : Prop :=
  (v = .slice none 0 0 ∧ z = none) ∨ ∃ (g cap : Nat) (zs : List Int) (cur : Array Value), v = .slice (some ⟨g, 0, none⟩) zs.length cap ∧ z = some zs ∧ N ≤ g ∧ w.heap[g]? = some (.cells cur 5) ∧
    zs.length ≤ 140737488351232 ∧ (∀ j, j < zs.length → cur[j]? = some (.int .u8 (zs.getD j 0))) ∧ ∀ n ∈ zs, (Lit.int .u8 n).wf = true

theorem AddrIs.src {N : Nat} {w : World} {v : Value} {z : Option (List Int)} (h : AddrIs N w v z) : SrcIs w v z := by
  rcases h with h | ⟨g, cap, zs, cur, hv, hz, hN, hb, hl, hc, hw⟩
  · exact .inl h
  · refine .inr ⟨⟨g, 0, none⟩, cap, zs, hv, hz, hl, fun j hj => ⟨blk_lt hb, ?_⟩, hw⟩
    rw [Go.WideShapes.add_plain, Nat.zero_add, cell_of_row w g j _ 5 _ hb]; exact hc j hj

theorem AddrIs.keep {N N' : Nat} {w w' : World} {v : Value} {z : Option (List Int)} (h : AddrIs N w v z) (hN : N' ≤ N) (hk : ∀ b o, N ≤ b → w.heap[b]? = some o → w'.heap[b]? = some o) : AddrIs N' w' v z := by
  rcases h with h | ⟨g, cap, zs, cur, hv, hz, h1, hb, r⟩
  · exact .inl h
  · exact .inr ⟨g, cap, zs, cur, hv, hz, by omega, hk _ _ h1 hb, r⟩

theorem SrcIs.keep {w w' : World} {v : Value} {z : Option (List Int)} (h : SrcIs w v z) (hb : Below w.heap.size w w') : SrcIs w' v z := by
  rcases h with h | ⟨x, c, zs, hv, hz, hl, hc, hw⟩
  · exact .inl h
  · refine .inr ⟨x, c, zs, hv, hz, hl, fun j hj => ⟨Nat.lt_of_lt_of_le (hc j hj).1 hb.size, ?_⟩, hw⟩
    rw [hb.cell (p := x.add j) (by have := (hc j hj).1; unfold Addr.add; split <;> exact this)]; exact (hc j hj).2

theorem map_get {zs : List Int} {j : Nat} (h : j < zs.length) : (zs.map (Value.int .u8))[j]? = some (.int .u8 (zs.getD j 0)) := by simp [h]

set_option maxHeartbeats 1000000 in
theorem clone_any (v : Value) (z : Option (List Int)) (w : World) (h : SrcIs w v z) :
    Calls Yba.prog 4 #[v] w fun e w' => ∃ u, e = .returned u ∧ AddrIs w.heap.size w' u z ∧ Below w.heap.size w w' := by
  have q23 := fun w a m c => Lib.run_eql_slice_nil (P := Yba.prog) w 23 _ a m c 0 0 Yba.underlying23
  rcases h with ⟨rfl, rfl⟩ | ⟨x, c, zs, rfl, rfl, hl, hc, hw⟩
  · go_enter Yba.func4, Yba.ntmps4
    go_wp2
    go_ret
    exact ⟨_, rfl, .inl ⟨rfl, rfl⟩, Below.refl _ _⟩
  · have hmk := make_one (P := Yba.prog) (t := 23) (e := 5) Yba.underlying23 Yba.info5 rfl zs.length (by omega) (by omega)
    have hin : (Yba.prog.info? 5).map (fun i => i.size) = some 1 := by kernel_rfl
    obtain ⟨W, hW⟩ : ∃ W, W = w.alloc (.cells (rep zs.length (.int .u8 0)) 5) := ⟨_, rfl⟩
    generalize hn : zs.length = n at *
    obtain ⟨L, hL⟩ : ∃ L, L = (zs.map (Value.int .u8)).toArray := ⟨_, rfl⟩
    have hcp : ∀ ty, (Builtin.copy_ #[23, 23] ty #[.slice (some ⟨w.heap.size, 0, none⟩) n n, .slice (some x) n c]).run Yba.prog (w.alloc (.cells (rep n (.int .u8 0)) 5)) = .ok (goInt n) ((w.alloc (.cells (rep n (.int .u8 0)) 5)).setRow w.heap.size L) := by
      intro ty
      have := run_copy_row (P := Yba.prog) (w.alloc (.cells (rep n (.int .u8 0)) 5)) 23 23 ty 5 w.heap.size 0 n n x n c (rep n (.int .u8 0)) 5 (zs.map (Value.int .u8)) Yba.underlying23 hin (blk_new _ _) (by simp [hn]) ?_ (by simp [hn, rep_size]) ?_
      · rw [this, hL]
        simp only [List.length_map, hn]
        congr 3
        rw [List.take_zero, List.nil_append, List.drop_of_length_le (by simp [rep_size])]
        simp
      · intro j u hj
        have hjl : j < n := by have := (List.getElem?_eq_some_iff.1 hj).1; simpa [hn] using this
        rw [map_get (by omega)] at hj
        cases hj
        have hx := hc j hjl
        rw [World.cell?_of_block (w := w) (Below.heap_alloc _ _ _ (by unfold Addr.add; split <;> exact hx.1))]
        exact hx.2
      · intro u hu
        obtain ⟨_, _, rfl⟩ := List.mem_map.1 hu
        rfl
    clear hW W
    go_enter Yba.func4, Yba.ntmps4
    go_wp2
    go_ret
    subst hn
    refine ⟨_, rfl, .inr ⟨w.heap.size, zs.length, zs, (zs.map (Value.int .u8)).toArray, rfl, rfl, Nat.le_refl _, setRow_heap _ _ _ _ 5 _ (blk_new w (.cells (rep zs.length (.int .u8 0)) 5)), hl, ?_, hw⟩, below_setRow ((Below.refl _ _).alloc (Nat.le_refl _) _) (Nat.le_refl _) _⟩
    intro j hj
    simpa using map_get hj

set_option maxHeartbeats 1000000 in
theorem eq_any (v1 v2 : Value) (z : Option (List Int)) (w : World) (h1 : SrcIs w v1 z) (h2 : SrcIs w v2 z) :
    Calls Yba.prog 6 #[v1, v2] w fun e w' => e = .returned (.bool true) ∧ w' = w := by
  have q23 := fun w a m c => Lib.run_eql_slice_nil (P := Yba.prog) w 23 _ a m c 0 0 Yba.underlying23
  rcases h1 with ⟨rfl, rfl⟩ | ⟨x, c, zs, rfl, rfl, hl, hc, hw⟩ <;> rcases h2 with ⟨rfl, hz⟩ | ⟨x', c', zs', rfl, hz, hl', hc', hw'⟩
  · go_enter Yba.func6, Yba.ntmps6
    go_wp2_with (go_at_call 8; refine (Yba.bytes_Equal_all none none 0 0 0 0 [] [] _ rfl rfl ?_ ?_).mono ?_)
    · exact Lib.BytesIn.nil _ _ _
    · exact Lib.BytesIn.nil _ _ _
    · go_ret
      exact ⟨rfl, rfl⟩
  · cases hz
  · cases hz
  · cases hz
    have b1 := Lib.BytesIn.of_cells (xs := zs) fun i hi => (hc i hi).2
    have b2 := Lib.BytesIn.of_cells (xs := zs) fun i hi => (hc' i hi).2
    generalize hn : zs.length = n at *
    go_enter Yba.func6, Yba.ntmps6
    go_wp2_with (go_at_call 8; refine (Yba.bytes_Equal_all _ _ _ _ _ _ zs zs _ hn hn b1 b2).mono ?_; rintro e w' ⟨rfl, rfl⟩)
    go_ret
    exact ⟨rfl, rfl⟩

end Go.Proofs.Ybulkexpec
