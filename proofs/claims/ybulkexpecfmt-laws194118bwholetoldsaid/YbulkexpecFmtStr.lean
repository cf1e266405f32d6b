/- LawS194118BWhole: (Expression).String at a simple expression: strings.Builder's copyCheck (53), WriteString (36); write (27); String (17). -/
import Derived.Test.YbulkexpecFmtSmall
import Derived.Test.YbulkexpecFmtShelf
import Derived.Shelf.Strings.BuilderK
namespace Go.Proofs.YbulkexpecFmt
open Go.RowKit Go.PK Go.Shelf
set_option linter.unusedVariables false

theorem sizeB : (Ybaf.prog.info? 61).map (·.size) = some 2 := by kernel_rfl
theorem liesB : liesAt Ybaf.prog Ybaf.prog.depth 61 (2 / Ybaf.prog.cellsOf 61) 0 61 1 = true := by kernel_rfl
theorem info5 : (Ybaf.prog.info? 5).map (fun i => (i.zero, i.size, i.bytes)) = some (some (.int .u8 0), 1, 1) := by kernel_rfl

/-- A Builder's pointer turned to a bare one, and back. -/
theorem to_up (b : Nat) (w : World) (hsh : w.shape? b = some (61, 2)) : (convert 58 98 (.pointer (some ⟨b, 0, none⟩))).run Ybaf.prog w = .ok (.pointer (some ⟨b, 0, none⟩)) w := by
  obtain ⟨j, hj, hjs⟩ := Option.map_eq_some_iff.1 sizeB
  unfold convert
  simp only [run_underlying Ybaf.underlying58, run_underlying Ybaf.underlying98, Sem.run_bind, Result.andThen_ok]
  change Sem.run Ybaf.prog (underlying 58 >>= fun x => underlying 98 >>= fun y => _) w = _
  simp [run_underlying Ybaf.underlying58, run_underlying Ybaf.underlying98, Conv.seenAt, viewAt, cellsIn, hsh, sizeOf, typeInfo, hj, hjs]
theorem from_up (b : Nat) (w : World) (hsh : w.shape? b = some (61, 2)) : (convert 98 58 (.pointer (some ⟨b, 0, none⟩))).run Ybaf.prog w = .ok (.pointer (some ⟨b, 0, none⟩)) w := by
  obtain ⟨j, hj, hjs⟩ := Option.map_eq_some_iff.1 sizeB
  have hl := liesB
  unfold convert
  simp only [run_underlying Ybaf.underlying58, run_underlying Ybaf.underlying98, Sem.run_bind, Result.andThen_ok]
  change Sem.run Ybaf.prog (underlying 98 >>= fun x => underlying 58 >>= fun y => _) w = _
  simp [run_underlying Ybaf.underlying58, run_underlying Ybaf.underlying98, Conv.seenAt, viewAt, hsh, variablesAt, hl, sizeOf, typeInfo, hj]

set_option maxHeartbeats 1000000 in
set_option maxRecDepth 100000 in
theorem check_used (b : Nat) (w : World) (h0 : w.cell? ⟨b, 0, none⟩ = some (.pointer (some ⟨b, 0, none⟩))) : Calls Ybaf.prog 53 #[.pointer (some ⟨b, 0, none⟩)] w fun e w' => e = .returned (.tuple #[]) ∧ w' = w := by
  obtain ⟨j, hj, _⟩ := Option.map_eq_some_iff.1 sizeB
  go_enter Ybaf.func53, Ybaf.ntmps53
  go_wp2
  rw [Lib.run_neq_ptr_same w _ Ybaf.underlying58 hj]
  go_wp2
  go_end0
  exact ⟨rfl, rfl⟩

set_option maxHeartbeats 1000000 in
set_option maxRecDepth 100000 in
theorem check_fresh (b : Nat) (w : World) (h0 : w.cell? ⟨b, 0, none⟩ = some (.pointer none)) (hsh : w.shape? b = some (61, 2)) (hfz : w.frozen? ⟨b, 0, none⟩ = false) :
    Calls Ybaf.prog 53 #[.pointer (some ⟨b, 0, none⟩)] w fun e w' => e = .returned (.tuple #[]) ∧ w' = w.setCell ⟨b, 0, none⟩ (.pointer (some ⟨b, 0, none⟩)) := by
  obtain ⟨j, hj, hjs⟩ := Option.map_eq_some_iff.1 sizeB
  go_enter Ybaf.func53, Ybaf.ntmps53
  go_wp2
  rw [to_up b w hsh]
  simp only [Result.andThen]
  rw [Oper.upon_value]
  go_wp2
  rw [run_callFunc_extern Ybaf.func61 (by kernel_rfl) (by kernel_rfl) (by kernel_rfl) (e := Extern.AbiNoEscape.same) (by kernel_rfl)]
  rw [Lib.run_noEscape]
  simp only [Result.andThen]
  rw [Oper.upon_value]
  go_wp2
  rw [from_up b w hsh]
  simp only [Result.andThen]
  rw [Oper.upon_value]
  go_wp2
  go_end0
  exact ⟨rfl, rfl⟩

theorem check_any (B b : Nat) (bs : List Value) (w : World) (h : Lib.IsBuilderF 61 5 B b bs w) :
    Calls Ybaf.prog 53 #[.pointer (some ⟨b, 0, none⟩)] w fun e w' => e = .returned (.tuple #[]) ∧ (Lib.BuilderAtF 61 5 B b (.pointer (some ⟨b, 0, none⟩)) bs w' ∧ Below B w w' ∧ Lib.OthersKept 5 (some b) w w') := by
  rcases h with h | h
  · refine (check_fresh b w h.cell0 h.shape h.frozen0).mono ?_
    rintro e w' ⟨rfl, rfl⟩
    exact ⟨rfl, h.used _, (Below.refl B w).setCell (p := ⟨b, 0, none⟩) h.1 _, (Lib.OthersKept.refl _ _ w).setCell ⟨b, 0, none⟩ rfl _⟩
  · refine (check_used b w h.cell0).mono ?_
    rintro e w' ⟨rfl, rfl⟩
    exact ⟨rfl, h, Below.refl B _, Lib.OthersKept.refl _ _ _⟩

set_option maxHeartbeats 2000000 in
set_option maxRecDepth 100000 in
theorem ws_any (B b : Nat) (bs : List Value) (s : ByteArray) (w : World) (h : Lib.IsBuilderF 61 5 B b bs w) (hlen : bs.length + s.size ≤ 140737488355328) (hBw : B ≤ w.heap.size) :
    Calls Ybaf.prog 36 #[.pointer (some ⟨b, 0, none⟩), .string s] w fun e w' => (∃ v, e = .returned v) ∧ (Lib.BuilderAtF 61 5 B b (.pointer (some ⟨b, 0, none⟩)) (bs ++ Lib.strCells s) w' ∧ Below B w w' ∧ Lib.OthersKept 5 (some b) w w') := by
  obtain ⟨i0, hi, hz0, hz1, hz2⟩ := info_parts info5
  go_enter Ybaf.func36, Ybaf.ntmps36
  go_wp2_with (go_at_call 53; refine (check_any B b bs _ h).mono ?_)
  rintro e w1 ⟨rfl, h1, hb1, hk1⟩
  obtain ⟨hB, v, hbk, hown, hne⟩ := h1
  have c0 : w1.cell? ⟨b, 0, none⟩ = some (.pointer (some ⟨b, 0, none⟩)) := by rw [Lib.cell_of_heap hbk]; rfl
  have c1 : w1.cell? ⟨b, 1, none⟩ = some v := by rw [Lib.cell_of_heap hbk]; rfl
  go_wp2_with (at_builtin; refine Lib.wpList_append_own_stringF _ rfl _ _ 59 9 rfl B 5 i0 Ybaf.underlying59 Ybaf.underlying9 hi hz0 hz1 hz2 _ _ _ rfl hown s rfl ?c3 ?c4 ?c5 ?_)
  case c3 => unfold maxLen; omega
  case c4 => omega
  case c5 => have := hb1.size; omega
  intro v' w2 hown' hgrow _
  have hlt : b < w1.heap.size := blk_lt hbk
  have hb2 : w2.heap[b]? = some (.cells #[.pointer (some ⟨b, 0, none⟩), v] 61 (0, 0)) := by
    rw [hgrow.block b hlt (fun e => hne e.symm)]
    exact hbk
  have d0 : w2.cell? ⟨b, 0, none⟩ = some (.pointer (some ⟨b, 0, none⟩)) := by rw [Lib.cell_of_heap hb2]; rfl
  have d1 : w2.cell? ⟨b, 1, none⟩ = some v := by rw [Lib.cell_of_heap hb2]; rfl
  have f1 : w2.frozen? ⟨b, 1, none⟩ = false := Lib.frozen_of_heap hb2 1
  obtain ⟨ao, n', cap, rfl⟩ : ∃ ao n' cap, v' = .slice ao n' cap := by
    rcases hown'.2 with ⟨hv, _⟩ | ⟨g, cap, cur, fz, hv, _⟩
    · exact ⟨_, _, _, hv⟩
    · exact ⟨_, _, _, hv⟩
  go_wp2
  go_ret2
  refine ⟨⟨_, rfl⟩, ?_, ?_, (hk1.grown hgrow (Lib.ownsRowF_kind hown)).setCell ⟨b, 1, none⟩ rfl _⟩
  · exact Lib.BuilderAtF.put (T := 61) (e := 5) hB hb2 (bs' := bs ++ Lib.strCells s) (by simpa [Lib.strCells_length] using hown') (by decide)
  · exact (hb1.grown hgrow (by have := hb1.size; omega) (fun k hk => (hown.lt k hk).1)).setCell (p := ⟨b, 1, none⟩) hB _

def sx (i x : ByteArray) : Array Value := #[.int .i64 0, .string i, .string x, .slice none 0 0]
theorem kept31 {b k : Nat} {w w' : World} {cs : Array Value} (hk : Lib.OthersKept 5 (some b) w w') (h : w.heap[k]? = some (.cells cs 31)) (hne : k ≠ b) : w'.heap[k]? = some (.cells cs 31) :=
  hk k _ h (by simpa using hne) (fun c fz e => by cases e)

set_option maxHeartbeats 2000000 in
set_option maxRecDepth 100000 in
theorem write_with (B b : Nat) (i x : ByteArray) (w : World) (h : Lib.IsBuilderF 61 5 B b [] w) (hi : i.size ≤ 100) (hx : x.size ≤ 100) (hx0 : x ≠ noStr) :
    Calls Ybaf.prog 27 #[.agg #[.int .i64 0, .string i, .string x, .slice none 0 0], .pointer (some ⟨b, 0, none⟩), .bool false] w fun e w' => e = .returned (.tuple #[]) ∧ Lib.IsBuilderF 61 5 B b (Lib.strCells i ++ Lib.strCells withS ++ Lib.strCells x) w' ∧ Below B w w' := by
  have hB : B ≤ b ∧ b < w.heap.size := by rcases h with h | h <;> exact ⟨h.1, h.lt⟩
  have h0 : Lib.IsBuilderF 61 5 B b [] (w.alloc (.cells (sx i x) 31)) := h.alloc (.cells (sx i x) 31)
  have x0 : (w.alloc (.cells (sx i x) 31)).heap[w.heap.size]? = some (.cells (sx i x) 31) := blk_new w _
  have q0 := em_f hx0
  have ew : withS.size = 6 := rfl
  have n2 : (([] : List Value) ++ Lib.strCells i).length + withS.size ≤ 140737488355328 := by simp only [List.nil_append, Lib.strCells_length]; omega
  have n3 : (([] : List Value) ++ Lib.strCells i ++ Lib.strCells withS).length + x.size ≤ 140737488355328 := by simp only [List.nil_append, List.length_append, Lib.strCells_length]; omega
  go_enter Ybaf.func27, Ybaf.ntmps27
  go_wp2_with (go_at_call 36; refine (ws_any B b [] i _ h0 (by simp; omega) (by simp; omega)).mono ?_)
  rintro e w1 ⟨⟨v1, rfl⟩, h1, hb1, hk1⟩
  have x1 := kept31 hk1 x0 (by omega)
  have z1 : B ≤ w1.heap.size := by have := hb1.size; simp at this; omega
  have d2 : w1.cell? ⟨w.heap.size, 2, none⟩ = some (.string x) := by rw [cell_of_row _ _ _ _ _ _ x1]; rfl
  have d0 : w1.cell? ⟨w.heap.size, 0, none⟩ = some (.int .i64 0) := by rw [cell_of_row _ _ _ _ _ _ x1]; rfl
  have d3 : w1.cell? ⟨w.heap.size, 3, none⟩ = some (.slice none 0 0) := by rw [cell_of_row _ _ _ _ _ _ x1]; rfl
  go_wp2_with (go_at_call 36; refine (ws_any B b _ withS _ (.inr h1) n2 z1).mono ?_)
  rintro e w2 ⟨⟨v2, rfl⟩, h2, hb2, hk2⟩
  have x2 := kept31 hk2 x1 (by omega)
  have z2 : B ≤ w2.heap.size := Nat.le_trans z1 hb2.size
  have d2 : w2.cell? ⟨w.heap.size, 2, none⟩ = some (.string x) := by rw [cell_of_row _ _ _ _ _ _ x2]; rfl
  have d3 : w2.cell? ⟨w.heap.size, 3, none⟩ = some (.slice none 0 0) := by rw [cell_of_row _ _ _ _ _ _ x2]; rfl
  go_wp2_with (go_at_call 36; refine (ws_any B b _ x _ (.inr h2) n3 z2).mono ?_)
  rintro e w3 ⟨⟨v3, rfl⟩, h3, hb3, hk3⟩
  have x3 := kept31 hk3 x2 (by omega)
  have d3 : w3.cell? ⟨w.heap.size, 3, none⟩ = some (.slice none 0 0) := by rw [cell_of_row _ _ _ _ _ _ x3]; rfl
  go_wp2_with fail
  go_loopw [37] (fun i x => i = .int .i64 0 ∧ x = w3) (fun _ _ => 0)
  case atStart => exact ⟨rfl, rfl⟩
  case round =>
    obtain ⟨rfl, hxw⟩ := hrel
    rw [hxw]
    go_wp2_with fail
    go_end0
    exact ⟨rfl, .inr (by simpa using h3), ((Below.refl B w).alloc (by omega) _).trans (hb1.trans (hb2.trans hb3))⟩

theorem data_app (a b : ByteArray) : (a ++ b).data.toList = a.data.toList ++ b.data.toList := by simp

theorem fst_cells (i x : ByteArray) : Lib.strCells i ++ Lib.strCells withS ++ Lib.strCells x = Lib.byteCells (i ++ withS ++ x).data.toList := by
  simp [Lib.strCells_eq, Lib.byteCells]

set_option maxHeartbeats 2000000 in
set_option maxRecDepth 100000 in
theorem string_any (i x : ByteArray) (w : World) (hi : i.size ≤ 100) (hx : x.size ≤ 100) :
    Calls Ybaf.prog 17 #[.agg #[.int .i64 0, .string i, .string x, .slice none 0 0]] w fun e w' => e = .returned (.string (textOf i x)) ∧ Below w.heap.size w w' := by
  by_cases h : x = noStr
  · rw [textOf_none h]
    have h1 := em_t h
    clear h
    go_enter Ybaf.func17, Ybaf.ntmps17
    go_wp2_with (go_at_call 26; refine (isID_any i x _ _).mono ?_; rintro e w' ⟨rfl, rfl⟩)
    go_ret
    exact ⟨rfl, below2 _ _ _⟩
  · rw [textOf_some h]
    have h1 := em_f h
    go_enter Ybaf.func17, Ybaf.ntmps17
    go_wp2_with (go_at_call 26; refine (isID_any i x _ _).mono ?_)
    rintro e w1 ⟨rfl, hw1⟩
    have hb1 : Below w.heap.size w w1 := by rw [hw1]; exact below2 _ _ _
    have c0 : w1.heap[w.heap.size]? = some (.cells #[.int .i64 0, .string i, .string x, .slice none 0 0] 31) := by rw [hw1]; exact blk_alloc (blk_new _ _) _
    have hlt := blk_lt c0
    clear hw1
    have hB : Lib.IsBuilderF 61 5 w1.heap.size w1.heap.size [] (w1.alloc (.cells #[.pointer none, .slice none 0 0] 61)) := .of (Lib.fresh_isBuilder 61 5 w1)
    have c1 := blk_alloc c0 (.cells #[.pointer none, .slice none 0 0] 61)
    have d0 : (w1.alloc (.cells #[.pointer none, .slice none 0 0] 61)).cell? ⟨w.heap.size, 0, none⟩ = some (.int .i64 0) := by rw [cell_of_row _ _ _ _ _ _ c1]; rfl
    have d1 : (w1.alloc (.cells #[.pointer none, .slice none 0 0] 61)).cell? ⟨w.heap.size, 1, none⟩ = some (.string i) := by rw [cell_of_row _ _ _ _ _ _ c1]; rfl
    have d2 : (w1.alloc (.cells #[.pointer none, .slice none 0 0] 61)).cell? ⟨w.heap.size, 2, none⟩ = some (.string x) := by rw [cell_of_row _ _ _ _ _ _ c1]; rfl
    have d3 : (w1.alloc (.cells #[.pointer none, .slice none 0 0] 61)).cell? ⟨w.heap.size, 3, none⟩ = some (.slice none 0 0) := by rw [cell_of_row _ _ _ _ _ _ c1]; rfl
    have hWr := write_with _ _ i x _ hB hi hx h
    go_wp2_with (go_at_call 27; refine hWr.mono ?_)
    rintro e w2 ⟨rfl, h2, hb2⟩
    rw [fst_cells] at h2
    have z2 : w1.heap.size ≤ w2.heap.size := by have := hb2.size; simp at this; omega
    have hStr := Ybaf.Builder_String_any_k _ _ _ _ h2 z2
    have eS : (⟨(i ++ withS ++ x).data.toList.toArray⟩ : ByteArray) = i ++ withS ++ x := rfl
    rw [eS] at hStr
    go_wp2_with (go_at_call 28; refine hStr.mono ?_)
    rintro e w3 ⟨rfl, _, hb3, _⟩
    go_wp2_with fail
    go_ret
    refine ⟨rfl, hb1.trans ((((Below.refl _ w1).alloc hb1.size _).trans ((hb2.trans hb3).mono hb1.size)))⟩
end Go.Proofs.YbulkexpecFmt
