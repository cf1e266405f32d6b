/- LawS194110BWhole: (*Repo).Head (5). -/
import Derived.Test.YbulkexozuBuild
import Derived.Test.YbulkexozuMu
import Derived.Laws.ResultCell
namespace Go.Proofs.Ybulkexozu
open Go.RowKit Go.PK Go.SM
set_option linter.unusedVariables false

theorem zero30' (w : World) : (zeroValue 30).run Yba.prog w = .ok (.agg zl.toArray) w := zero30 w
theorem store30_new {cs : List Value} (hl : cs.length = 40) (hb : Bytes cs) (w : World) : (Instr.storeAt 30 (.pointer (some ⟨w.heap.size, 0, none⟩)) (.agg cs.toArray)).run Yba.prog (w.alloc (.cells zl.toArray 30)) = .ok () (w.alloc (.cells cs.toArray 30)) :=
  run_storeAt_new w 30 zl.toArray cs.toArray (by rw [size30]; simp [hl]) (by simp [hl, zl]) (all_oneCell_toArray hb.one)
theorem load30_at {cs : List Value} (hl : cs.length = 40) {w : World} {b o : Nat} (h : w.rangeAt b o cs) : (Instr.loadAt 30 (.pointer (some ⟨b, o, none⟩))).run Yba.prog w = .ok (.agg cs.toArray) w :=
  run_loadAt_mid w b o 30 cs _ h Yba.underlying30 rfl (by rw [size30, hl])
theorem store30_at {cs : List Value} (hl : cs.length = 40) (hb : Bytes cs) {w : World} {b o : Nat} (h : w.there b o 40) : (Instr.storeAt 30 (.pointer (some ⟨b, o, none⟩)) (.agg cs.toArray)).run Yba.prog w = .ok () (w.setCells b o cs) := by
  have := run_storeAt_mid (P := Yba.prog) w b o 30 cs.toArray (by simpa [hl] using h) (by rw [size30]; simp [hl]) (all_oneCell_toArray hb.one)
  simpa using this
theorem there_block {w : World} {b o n : Nat} {C : Array Value} {t : TypeId} (h : w.heap[b]? = some (.cells C t)) (hn : o + n ≤ C.size) : w.there b o n := fun j hj => by
  refine ⟨?_, frozen_of_row w b _ C t h⟩
  rw [cell_of_row w b (o + j) C t (0, 0) h, Array.getElem?_eq_getElem (by omega)]
  rfl
theorem Moved.setCells (b : Nat) : ∀ (vs : List Value) (o : Nat) (w : World), Moved w (w.setCells b o vs) (fun k => k = b)
  | [], _, w => Moved.refl _ _
  | v :: r, o, w => (Moved.setCell w ⟨b, o, none⟩ v).trans (Moved.setCells b r (o + 1) _) fun i hi => .inl hi

set_option maxHeartbeats 4000000 in
set_option maxRecDepth 100000 in
theorem head_any (B N rb ob q1 q2 : Nat) (A : AL) (S : ByteArray → AL) (db br : ByteArray) (cs : List Value) (w : World) (h : RepoAt w B N rb ob q1 q2 0 A S) (hN : N ≤ w.heap.size) (hv : (SM.look (S db) br).getD zhd = .agg cs.toArray) (hl : cs.length = 40) (hb : Bytes cs) :
    Calls Yba.prog 5 #[.pointer (some ⟨rb, 0, none⟩), .string db, .string br] w fun e w' =>
      e = .returned (.tuple #[.agg cs.toArray, .bool (SM.look (S db) br).isSome]) ∧ RepoAt w' B N rb ob q1 q2 0 A S ∧ Moved w w' (fun b => b = rb) := by
  have hz := zero30'
  have h1 := h.alloc (.cells zl.toArray 30)
  have c1 := h1.cell1
  have z1 := h1.free 1
  have hrb : rb < w.heap.size := Nat.lt_of_lt_of_le h.hi.1 hN
  have HV : Hid ((SM.look (S db) br).getD zhd = .agg cs.toArray) := hv
  clear hv
  go_enter_defers Yba.func5, Yba.ntmps5
  go_wp2_with (go_at_call 8; refine (MuLone.lock_free muLib ⟨rb, 1, none⟩ _ c1 z1).mono ?_)
  rintro e W2 ⟨rfl, hW2⟩
  have hR2 : RepoAt W2 B N rb ob q1 q2 1 A S := by rw [hW2]; exact h1.lock 1
  have hM2 : Moved w W2 (fun b => b = rb) := by rw [hW2]; exact (Moved.alloc w _ _).trans (Moved.setCell _ _ _) fun i hi => .inl hi
  have hB2 : W2.heap[w.heap.size]? = some (.cells zl.toArray 30) := by rw [hW2]; exact blk_set (blk_new _ _) (by simp; omega) _
  clear hW2 c1 z1 h1
  have f39 := hR2.find db
  have f48 := (hR2.tabs db).find br
  rw [HV.out] at f48
  have c3 := hR2.cell3
  have s1 := store30_new hl hb W2
  obtain ⟨W4, hW4⟩ : ∃ W4, W4 = W2.alloc (.cells cs.toArray 30) := ⟨_, rfl⟩
  rw [← hW4] at s1
  have hR4 : RepoAt W4 B N rb ob q1 q2 1 A S := by rw [hW4]; exact hR2.alloc _
  have hM4 : Moved w W4 (fun b => b = rb) := by rw [hW4]; exact hM2.trans (Moved.alloc W2 _ (fun _ => False)) fun i hi => hi.elim
  have hB4 : W4.heap[w.heap.size]? = some (.cells zl.toArray 30) := by rw [hW4]; exact blk_alloc hB2 _
  have hX4 : W4.heap[W2.heap.size]? = some (.cells cs.toArray 30) := by rw [hW4]; exact blk_new _ _
  have l8 := load30_at hl (by simpa using range_block hX4)
  have s6 := store30_at hl hb (there_block (o := 0) (n := 40) hB4 (by simp [zl]))
  clear hW4
  generalize hx : (SM.look A db).getD (.map none) = x at *
  generalize hy : (SM.look (S db) br).isSome = y at *
  clear hx
  have HY : Hid ((SM.look (S db) br).isSome = y) := hy
  clear hy
  go_wp2_with (first | (refine wpList_load_eq (by rfl) _ _ (by rfl) (by rfl) l8 ?_) | (refine wpList_store_eq (by rfl) _ _ _ (by rfl) (by rfl) (by rfl) s1 ?_) | (refine wpList_store_eq (by rfl) _ _ _ (by rfl) (by rfl) (by rfl) s6 ?_))
  have hM5 : Moved W4 (W4.setCells w.heap.size 0 cs) (fun k => k = w.heap.size) := Moved.setCells _ _ _ _
  have hr5 : (W4.setCells w.heap.size 0 cs).rangeAt w.heap.size 0 cs := World.rangeAt_setCells_same _ _ _ _ (by rw [hl]; exact there_block (o := 0) (n := 40) hB4 (by simp [zl]))
  have hR5 : RepoAt (W4.setCells w.heap.size 0 cs) B N rb ob q1 q2 1 A S := hR4.keep fun b o _ h2 ho => hM5.blk ho (by omega)
  have hMw : Moved w (W4.setCells w.heap.size 0 cs) (fun b => b = rb) := hM4.trans hM5 fun i hi => .inr (by omega)
  generalize W4.setCells w.heap.size 0 cs = W5 at *
  clear hM5 s6 l8
  refine leaves_cons (f := 7) (args := #[.pointer (some ⟨rb, 1, none⟩)]) (by simp) (by simp [go_sem]) ?_
  refine (MuLone.unlock_deferred muLib ⟨rb, 1, none⟩ .returning _ hR5.cell1 (hR5.free 1)).mono ?_
  rintro e u' W6 ⟨rfl, rfl, hW6⟩
  have hR6 : RepoAt W6 B N rb ob q1 q2 0 A S := by rw [hW6]; exact hR5.lock 0
  have hM6 : Moved w W6 (fun b => b = rb) := by rw [hW6]; exact hMw.trans (Moved.setCell _ _ _) fun i hi => .inl hi
  have hr6 : W6.rangeAt w.heap.size 0 cs := fun j v hv => by
    rw [hW6, World.cell?_setCell_other (h := fun e => by have := congrArg Addr.block e; simp at this; omega)]
    exact hr5 j v hv
  have hld : (loadVar 30 ⟨w.heap.size, 0, none⟩).run Yba.prog W6 = .ok (.agg cs.toArray) W6 := run_loadVar_mid W6 _ 0 30 cs _ hr6 Yba.underlying30 rfl (by rw [size30, hl])
  refine ⟨.tuple #[.agg cs.toArray, .bool y], (results_cell_tmp (fn := Yba.f5) (p := 6) (u := 7) (ty := 30) rfl _ _ _).trans ?_, ?_, hR6, hM6⟩
  · have ha : (asAddr (.pointer (some ⟨w.heap.size, 0, none⟩))).run Yba.prog W6 = .ok ⟨w.heap.size, 0, none⟩ W6 := rfl
    show ((asAddr (.pointer (some ⟨w.heap.size, 0, none⟩))).run Yba.prog W6).andThen _ = _
    rw [ha, Result.andThen_ok, hld, Result.andThen_ok]
    rfl
  · rw [HY.out]
end Go.Proofs.Ybulkexozu
