/- LawS194110BWhole (function 3): the walk. -/
import Derived.Test.YbulkexozuHead
import Derived.Deep.RegionHeld
namespace Go.Proofs.Ybulkexozu
open Go.RowKit Go.PK Go.SM
set_option linter.unusedVariables false
set_option linter.unusedSimpArgs false

theorem run_loadVar_one {P : Program} {t : TypeId} {a : Addr} {w : World} (h : (isAgg t).run P w = .ok false w) : (loadVar t a).run P w = (load a).run P w := by
  simp [loadVar, h]
theorem run_storeVar_int {P : Program} {t : TypeId} {a : Addr} {k : IntKind} {z : Int} {w : World} (h : (sizeOf t).run P w = .ok 1 w) : (storeVar t a (.int k z)).run P w = (storeCells a [.int k z] 0).run P w := by
  simp [storeVar, h, Value.cells]
theorem run_storeVar_bool {P : Program} {t : TypeId} {a : Addr} {z : Bool} {w : World} (h : (sizeOf t).run P w = .ok 1 w) : (storeVar t a (.bool z)).run P w = (storeCells a [.bool z] 0).run P w := by
  simp [storeVar, h, Value.cells]
attribute [local go_sem] run_loadVar_one run_storeVar_int run_storeVar_bool
theorem lv25 {w : World} {b o : Nat} {cs : List Value} (h : w.rangeAt b o cs) (hl : cs.length = 20) : (loadVar 25 ⟨b, o, none⟩).run Yba.prog w = .ok (.agg cs.toArray) w :=
  run_loadVar_mid w b o 25 cs _ h Yba.underlying25 rfl (by rw [size25, hl])
theorem lv30 {w : World} {b o : Nat} {cs : List Value} (h : w.rangeAt b o cs) (hl : cs.length = 40) : (loadVar 30 ⟨b, o, none⟩).run Yba.prog w = .ok (.agg cs.toArray) w :=
  run_loadVar_mid w b o 30 cs _ h Yba.underlying30 rfl (by rw [size30, hl])
theorem sv30 {w : World} {b o : Nat} {cs : List Value} (h : w.there b o 40) (hl : cs.length = 40) (hb : Bytes cs) : (storeVar 30 ⟨b, o, none⟩ (.agg cs.toArray)).run Yba.prog w = .ok () (w.setCells b o cs) := by
  have := run_storeVar_mid (P := Yba.prog) w b o 30 cs.toArray (by simpa [hl] using h) (by rw [size30]; simp [hl]) (all_oneCell_toArray hb.one)
  simpa using this
theorem sv30n {w : World} {cs : List Value} (hl : cs.length = 40) (hb : Bytes cs) : (storeVar 30 ⟨w.heap.size, 0, none⟩ (.agg cs.toArray)).run Yba.prog (w.alloc (.cells zl.toArray 30)) = .ok () (w.alloc (.cells cs.toArray 30)) :=
  run_storeVar_new w 30 zl.toArray cs.toArray (by rw [size30]; simp [hl]) (by simp [hl, zl]) (all_oneCell_toArray hb.one)
theorem exec_build {P : Program} {ev : Operand → Value} {o : Oper} {t : TypeId} {parts : Array (Nat × Operand)} {v : Value} {W : World} (ho : o.op = .build t parts) (h : (Instr.build t (parts.map fun (i, x) => (i, ev x))).run P W = .ok v W) : (execOp ev o).run P W = .ok (.value v) W := by
  unfold execOp
  simp only [ho, Sem.run_bind, h, Result.andThen_ok, Sem.run_pure]
theorem setCells_new {w : World} {cs : List Value} (hl : cs.length = 40) (hb : Bytes cs) : (w.alloc (.cells zl.toArray 30)).setCells w.heap.size 0 cs = w.alloc (.cells cs.toArray 30) := by
  have h1 := sv30 (w := w.alloc (.cells zl.toArray 30)) (there_block (o := 0) (n := 40) (blk_new w _) (by simp [zl])) hl hb
  rw [sv30n hl hb] at h1
  injection h1 with _ h2
  exact h2.symm
theorem sc30 {w : World} {b o : Nat} {cs : List Value} (h : w.there b o 40) (hl : cs.length = 40) (hb : Bytes cs) : (storeCells ⟨b, o, none⟩ cs 0).run Yba.prog w = .ok () (w.setCells b o cs) := by
  have := run_storeCells_cells (P := Yba.prog) b o cs 0 w (fun j hj => by simpa using (h j (by omega)).1) (fun j hj => by simpa using (h j (by omega)).2) hb.one
  simpa using this
theorem sc30n {w : World} {cs : List Value} (hl : cs.length = 40) (hb : Bytes cs) : (storeCells ⟨w.heap.size, 0, none⟩ cs 0).run Yba.prog (w.alloc (.cells zl.toArray 30)) = .ok () (w.alloc (.cells cs.toArray 30)) := by
  rw [sc30 (there_block (o := 0) (n := 40) (blk_new w _) (by simp [zl])) hl hb, setCells_new hl hb]
theorem wpList_load_w {P : Program} {ops : Array Oper} {rest : List Oper} {op : Oper} {a : Act} {w : World} {Q : Exit → Act → World → Prop} (hw : Region.wanted op (yielded ops a.tmps) = true) (ty : TypeId) (x : Operand) (ho : op.op = .load ty x)
    (b o : Nat) (hx : a.eval x = .pointer (some ⟨b, o, none⟩)) (cs : List Value) (d : TypeDesc) (hc : w.rangeAt b o cs)
    (hu : P.underlying ty = some d) (hd : d.isRow = true) (hi : (P.info? ty).map (·.size) = some cs.length)
    (h : wpList P ops Q rest (a.put op.dst (.agg cs.toArray)) w) : wpList P ops Q (op :: rest) a w := by
  rw [wpList, if_pos hw]
  exact .inl (wp_load_mid ty x ho b o hx cs d hc hu hd hi h)
theorem bb_eq {a b : ByteArray} (h : a = b) : (a.toList == b.toList) = true := by subst h; simp
theorem bb_ne {a b : ByteArray} (h : a ≠ b) : (a.toList == b.toList) = false := by
  rw [← beq_toListBytes]
  cases hh : (a == b) with
  | false => rfl
  | true => exact absurd ((MapKept.bytes_beq _ _).1 hh) h
theorem Ent.Ok.hdl_len {e : Ent} (h : e.Ok) : e.hdl.length = 40 := by simp [Ent.hdl, h.cm, h.wk]
theorem Ent.Ok.hdl_bytes {e : Ent} (h : e.Ok) : Bytes e.hdl := h.bc.append h.bw

/-- The three rows of the first reading. -/
structure Rws (x : World) (G n k1 k2 k3 : Nat) (len : Nat → Nat) (L : Nat → List Value) (okf : Nat → Bool) : Prop where
  size : G + 3 ≤ x.heap.size
  r1 : ∃ c1, x.heap[G]? = some (.cells c1 3) ∧ c1.size = n ∧ ∀ j, j < k1 → c1[j]? = some (.int .i64 (len j))
  r2 : x.there (G + 1) 0 (n * 40) ∧ ∀ j, j < k2 → x.rangeAt (G + 1) (j * 40) (L j)
  r3 : ∃ c3, x.heap[G + 1 + 1]? = some (.cells c3 4) ∧ c3.size = n ∧ ∀ j, j < k3 → c3[j]? = some (.bool (okf j))
section
variable {x y : World} {G n k1 k2 k3 : Nat} {len : Nat → Nat} {L : Nat → List Value} {okf : Nat → Bool}
theorem Rws.keep (h : Rws x G n k1 k2 k3 len L okf) (hs : x.heap.size ≤ y.heap.size) (hk : ∀ b, G ≤ b → b < G + 3 → y.heap[b]? = x.heap[b]?) : Rws y G n k1 k2 k3 len L okf := by
  obtain ⟨c1, h1, h2⟩ := h.r1
  obtain ⟨c3, h3, h4⟩ := h.r3
  have hc : ∀ j, y.cell? ⟨G + 1, j, none⟩ = x.cell? ⟨G + 1, j, none⟩ := fun j => World.cell?_of_block (hk (G + 1) (by omega) (by omega))
  have hf : ∀ j, y.frozen? ⟨G + 1, j, none⟩ = x.frozen? ⟨G + 1, j, none⟩ := fun j => World.frozen?_of_block (hk (G + 1) (by omega) (by omega))
  refine ⟨by have := h.size; omega, ⟨c1, by rw [hk G (by omega) (by omega)]; exact h1, h2⟩, ⟨fun j hj => ?_, fun j hj i v hv => ?_⟩, ⟨c3, by rw [hk (G + 1 + 1) (by omega) (by omega)]; exact h3, h4⟩⟩
  · rw [hc, hf]; exact h.r2.1 j hj
  · rw [hc]; exact h.r2.2 j hj i v hv
theorem Rws.drew (h : Rws x G n k1 k2 k3 len L okf) : Rws x.drew G n k1 k2 k3 len L okf := h.keep (Nat.le_refl _) fun _ _ _ => rfl
theorem Rws.drewN (h : Rws x G n k1 k2 k3 len L okf) (m : Nat) : Rws (x.drewN m) G n k1 k2 k3 len L okf := h.keep (Nat.le_refl _) fun _ _ _ => rfl
theorem Rws.alloc (h : Rws x G n k1 k2 k3 len L okf) (o : Obj) : Rws (x.alloc o) G n k1 k2 k3 len L okf := h.keep (by simp) fun b _ hb => Below.heap_alloc _ _ _ (by have := h.size; omega)
theorem Rws.moved (h : Rws x G n k1 k2 k3 len L okf) {M : Nat → Prop} (hM : Moved x y M) (hm : ∀ b, M b → b < G) : Rws y G n k1 k2 k3 len L okf := h.keep hM.size fun b h1 h2 => hM.block b (by have := h.size; omega) (fun e => by have := hm b e; omega)
theorem Rws.below (h : Rws x G n k1 k2 k3 len L okf) {B : Nat} (hb : Below B x y) (hB : G + 3 ≤ B) : Rws y G n k1 k2 k3 len L okf := h.keep hb.size fun b _ h2 => hb.block b (by omega)
theorem Rws.set1 (h : Rws x G n k1 k2 k3 len L okf) (hk : k1 < n) : Rws (x.setCell ⟨G, k1, none⟩ (.int .i64 (len k1))) G n (k1 + 1) k2 k3 len L okf := by
  obtain ⟨c1, h1, h2, h3⟩ := h.r1
  have h' : Rws (x.setCell ⟨G, k1, none⟩ (.int .i64 (len k1))) G n 0 k2 k3 len L okf := by
    obtain ⟨c3, h4, h5⟩ := h.r3
    refine ⟨by simpa using h.size, ⟨_, blk_same h1 k1 _, by simpa using h2, fun j hj => absurd hj (by omega)⟩, ⟨fun j hj => ?_, fun j hj i v hv => ?_⟩, ⟨c3, blk_set h4 (by simp <;> omega) _, h5⟩⟩
    · rw [World.cell?_setCell_other (h := fun e => by have := congrArg Addr.block e; simp at this)]
      refine ⟨(h.r2.1 j hj).1, ?_⟩
      rw [World.frozen?_setCell]; exact (h.r2.1 j hj).2
    · rw [World.cell?_setCell_other (h := fun e => by have := congrArg Addr.block e; simp at this)]
      exact h.r2.2 j hj i v hv
  refine ⟨h'.size, ⟨_, blk_same h1 k1 _, by simpa using h2, fun j hj => ?_⟩, h'.r2, h'.r3⟩
  by_cases e : j = k1
  · subst e
    rw [Array.getElem?_setIfInBounds_self_of_lt (by omega)]
  · rw [Array.getElem?_setIfInBounds_ne (Ne.symm e)]
    exact h3 j (by omega)
theorem Rws.set3 (h : Rws x G n k1 k2 k3 len L okf) (hk : k3 < n) : Rws (x.setCell ⟨G + 1 + 1, k3, none⟩ (.bool (okf k3))) G n k1 k2 (k3 + 1) len L okf := by
  obtain ⟨c1, h1, h2⟩ := h.r1
  obtain ⟨c3, h4, h5, h6⟩ := h.r3
  refine ⟨by simpa using h.size, ⟨c1, blk_set h1 (by simp <;> omega) _, h2⟩, ⟨fun j hj => ?_, fun j hj i v hv => ?_⟩, ⟨_, blk_same h4 k3 _, by simpa using h5, fun j hj => ?_⟩⟩
  · rw [World.cell?_setCell_other (h := fun e => by have := congrArg Addr.block e; simp at this)]
    refine ⟨(h.r2.1 j hj).1, ?_⟩
    rw [World.frozen?_setCell]; exact (h.r2.1 j hj).2
  · rw [World.cell?_setCell_other (h := fun e => by have := congrArg Addr.block e; simp at this)]
    exact h.r2.2 j hj i v hv
  · by_cases e : j = k3
    · subst e
      rw [Array.getElem?_setIfInBounds_self_of_lt (by omega)]
    · rw [Array.getElem?_setIfInBounds_ne (Ne.symm e)]
      exact h6 j (by omega)
theorem Rws.set2 (h : Rws x G n k1 k2 k3 len L okf) (hk : k2 < n) (hl : ∀ j, (L j).length = 40) : Rws (x.setCells (G + 1) (k2 * 40) (L k2)) G n k1 (k2 + 1) k3 len L okf := by
  obtain ⟨c1, h1, h2⟩ := h.r1
  obtain ⟨c3, h4, h5⟩ := h.r3
  have hM := Moved.setCells (G + 1) (L k2) (k2 * 40) x
  refine ⟨Nat.le_trans h.size hM.size, ⟨c1, hM.blk h1 (by omega), h2⟩, ⟨World.there_setCells h.r2.1 _ _ _, fun j hj => ?_⟩, ⟨c3, hM.blk h4 (by omega), h5⟩⟩
  by_cases e : j = k2
  · subst e
    refine World.rangeAt_setCells_same _ _ _ _ fun i hi => ?_
    have := h.r2.1 (j * 40 + i) (by rw [hl] at hi; omega)
    simpa using this
  · exact World.rangeAt_setCells_apart (h.r2.2 j (by omega)) _ _ _ (.inr (.inl (by rw [hl]; omega)))
theorem Rws.th2 (h : Rws x G n k1 k2 k3 len L okf) {k : Nat} (hk : k < n) : x.there (G + 1) (k * 40) 40 := fun i hi => by
  have := h.r2.1 (k * 40 + i) (by omega)
  simpa using this
theorem Rws.c1 (h : Rws x G n k1 k2 k3 len L okf) {k : Nat} (hk : k < n) : ∃ v, x.cell? ⟨G, k, none⟩ = some v ∧ x.frozen? ⟨G, k, none⟩ = false := by
  obtain ⟨c1, h1, h2, _⟩ := h.r1
  obtain ⟨v, hv⟩ := cell_ex h1 (show k < c1.size by omega)
  exact ⟨v, hv, frozen_of_row x G k _ 3 h1⟩
theorem Rws.c3 (h : Rws x G n k1 k2 k3 len L okf) {k : Nat} (hk : k < n) : ∃ v, x.cell? ⟨G + 1 + 1, k, none⟩ = some v ∧ x.frozen? ⟨G + 1 + 1, k, none⟩ = false := by
  obtain ⟨c1, h1, h2, _⟩ := h.r3
  obtain ⟨v, hv⟩ := cell_ex h1 (show k < c1.size by omega)
  exact ⟨v, hv, frozen_of_row x (G + 1 + 1) k _ 4 h1⟩
theorem Rws.v1 (h : Rws x G n k1 k2 k3 len L okf) {k : Nat} (hk : k < k1) : x.cell? ⟨G, k, none⟩ = some (.int .i64 (len k)) := by
  obtain ⟨c1, h1, _, h3⟩ := h.r1
  rw [cell_of_row _ _ _ _ _ _ h1]; exact h3 k hk
theorem Rws.v3 (h : Rws x G n k1 k2 k3 len L okf) {k : Nat} (hk : k < k3) : x.cell? ⟨G + 1 + 1, k, none⟩ = some (.bool (okf k)) := by
  obtain ⟨c1, h1, _, h3⟩ := h.r3
  rw [cell_of_row _ _ _ _ _ _ h1]; exact h3 k hk
end
theorem info3 : (Yba.prog.info? 3).map (fun i => (i.zero, i.size, i.bytes)) = some (some (.int .i64 0), 1, 8) := by kernel_rfl
theorem info4 : (Yba.prog.info? 4).map (fun i => (i.zero, i.size, i.bytes)) = some (some (.bool false), 1, 1) := by kernel_rfl
theorem info30 : (Yba.prog.info? 30).map (fun i => (i.zero, i.size, i.bytes)) = some (some zhd, 40, 40) := by kernel_rfl
def c46 (n : Nat) : Array Value := madeCells zhd.cells (n * 40)
theorem c46_size (n : Nat) : (c46 n).size = n * 40 := by simp [c46, madeCells]
theorem make45 (n : Nat) (hn : n ≤ 65536) (w : World) : (Instr.makeSlice 45 (.int .i64 (n : Int)) (.int .i64 (n : Int))).run Yba.prog w = .ok (.slice (some ⟨w.heap.size, 0, none⟩) n n) (w.alloc (.cells (rep n (.int .i64 0)) 3)) :=
  make_one Yba.underlying45 info3 rfl n (by omega) (by omega) w
theorem make46 (n : Nat) (hn : n ≤ 65536) (w : World) : (Instr.makeSlice 46 (.int .i64 (n : Int)) (.int .i64 (n : Int))).run Yba.prog w = .ok (.slice (some ⟨w.heap.size, 0, none⟩) n n) (w.alloc (.cells (c46 n) 30)) :=
  make_any Yba.underlying46 info30 n (by omega) (by omega) w
theorem make47 (n : Nat) (hn : n ≤ 65536) (w : World) : (Instr.makeSlice 47 (.int .i64 (n : Int)) (.int .i64 (n : Int))).run Yba.prog w = .ok (.slice (some ⟨w.heap.size, 0, none⟩) n n) (w.alloc (.cells (rep n (.bool false)) 4)) :=
  make_one Yba.underlying47 info4 rfl n (by omega) (by omega) w
theorem Rws.start (w : World) (n : Nat) (len : Nat → Nat) (L : Nat → List Value) (okf : Nat → Bool) :
    Rws (((w.alloc (.cells (rep n (.int .i64 0)) 3)).alloc (.cells (c46 n) 30)).alloc (.cells (rep n (.bool false)) 4)) w.heap.size n 0 0 0 len L okf := by
  have h2 : (((w.alloc (.cells (rep n (.int .i64 0)) 3)).alloc (.cells (c46 n) 30)).alloc (.cells (rep n (.bool false)) 4)).heap[w.heap.size + 1]? = some (.cells (c46 n) 30) := blk_alloc (blk_at (by simp)) _
  exact ⟨by simp, ⟨_, blk_alloc (blk_alloc (blk_new w _) _) _, rep_size _ _, fun j hj => absurd hj (by omega)⟩, ⟨there_block h2 (by rw [c46_size]; omega), fun j hj => absurd hj (by omega)⟩, ⟨_, blk_at (by simp), rep_size _ _, fun j hj => absurd hj (by omega)⟩⟩

set_option maxRecDepth 100000 in
theorem lawB_big (a0 : Option Addr) (n cap0 : Nat) (qdb qbr : ByteArray) (pd pb : Int) (w : World) (hn : 65536 < n) :
    Calls Yba.prog 3 #[.slice a0 n cap0, .string qdb, .string qbr, .int .u8 pd, .int .u8 pb] w fun e w' => e = .returned (.bool true) ∧ Below w.heap.size w w' := by
  have hd : decide ((65536 : Int) < (n : Int)) = true := by simp; omega
  go_enter Yba.func3, Yba.ntmps3
  go_wp2_with fail
  go_ret
  exact ⟨rfl, Below.refl _ _⟩

set_option maxHeartbeats 40000000 in
set_option maxRecDepth 100000 in
theorem lawB_small (a0 : Option Addr) (n cap0 : Nat) (qdb qbr : ByteArray) (pd pb : Int) (E : Nat → Ent) (w : World) (hn : n ≤ 65536) (hpd : 0 ≤ pd ∧ pd ≤ 255) (hpb : 0 ≤ pb ∧ pb ≤ 255) (hE : EntAt w a0 n E) :
    Calls Yba.prog 3 #[.slice a0 n cap0, .string qdb, .string qbr, .int .u8 pd, .int .u8 pb] w fun e w' => e = .returned (.bool true) ∧ Below w.heap.size w w' := by
  have hd : decide ((65536 : Int) < (n : Int)) = false := by simp; omega
  have hz := zero30'
  have hbuild := build_any a0 n cap0 E w hn hE
  have HE : Hid (EntAt w a0 n E) := hE
  clear hE
  obtain ⟨kd, hkd, hkd'⟩ : ∃ kd : Nat, Int.tmod pd ((n : Int) + 1) = (kd : Int) ∧ kd ≤ n := by
    refine ⟨(pd % ((n : Int) + 1)).toNat, ?_, ?_⟩
    · rw [Int.tmod_eq_emod_of_nonneg hpd.1]
      have := Int.emod_nonneg pd (show ((n : Int) + 1) ≠ 0 by omega)
      omega
    · have := Int.emod_lt_of_pos pd (show (0 : Int) < (n : Int) + 1 by omega)
      omega
  obtain ⟨kb, hkb, hkb'⟩ : ∃ kb : Nat, Int.tmod pb ((n : Int) + 1) = (kb : Int) ∧ kb ≤ n := by
    refine ⟨(pb % ((n : Int) + 1)).toNat, ?_, ?_⟩
    · rw [Int.tmod_eq_emod_of_nonneg hpb.1]
      have := Int.emod_nonneg pb (show ((n : Int) + 1) ≠ 0 by omega)
      omega
    · have := Int.emod_lt_of_pos pb (show (0 : Int) < (n : Int) + 1 by omega)
      omega
  go_enter Yba.func3, Yba.ntmps3
  go_wp2_with (go_at_call 4; refine hbuild.mono ?_)
  rintro e x0 ⟨rb, ob, q1, q2, A, rfl, hR0, hB0⟩
  clear hbuild hd
  go_upto_if 47 with fail
  go_cut [13] from 48 to 52 (fun d x => ∃ db, d = .string db ∧ x = x0)
  case first =>
    by_cases hlt : kd < n
    · have hdt : decide (kd < n) = true := by simp; omega
      have i0 : (kd : Int) < (n : Int) := by omega
      obtain ⟨b, o, ha, hbl, hr, ok⟩ := HE.out kd hlt
      subst ha
      have e0 := (entIs_of (range_below hr hB0 hbl) ok).c0
      go_wp2_with fail
      go_meet
      exact ⟨_, rfl, rfl⟩
    · have hdt : decide (kd < n) = false := by simp; omega
      go_wp2_with fail
      go_meet
      exact ⟨_, rfl, rfl⟩
  case rest =>
    obtain ⟨db, rfl, hx⟩ := hcut
    rw [hx]
    clear hx
    clear hkd hkd'
    go_upto_if 61 with fail
    go_cut [15] from 62 to 66 (fun d x => ∃ br, d = .string br ∧ x = x0)
    case first =>
      by_cases hlt : kb < n
      · have hdt : decide (kb < n) = true := by simp; omega
        have i0 : (kb : Int) < (n : Int) := by omega
        obtain ⟨b, o, ha, hbl, hr, ok⟩ := HE.out kb hlt
        subst ha
        have e1 := (entIs_of (range_below hr hB0 hbl) ok).c1
        go_wp2_with fail
        go_meet
        exact ⟨_, rfl, rfl⟩
      · have hdt : decide (kb < n) = false := by simp; omega
        go_wp2_with fail
        go_meet
        exact ⟨_, rfl, rfl⟩
    case rest =>
      obtain ⟨br, rfl, hx⟩ := hcut
      rw [hx]
      clear hx hkb hkb'
      obtain ⟨N, hN⟩ : ∃ N, N = x0.heap.size := ⟨_, rfl⟩
      obtain ⟨X1, hX1⟩ : ∃ X1, X1 = x0.alloc (.cells zl.toArray 30) := ⟨_, rfl⟩
      rw [← hN] at hR0
      have hok : ∀ i, i < n → (E i).Ok := fun i hi => let ⟨_, _, _, _, _, ok⟩ := HE.out i hi; ok
      obtain ⟨cs, hcs, hcl, hcb⟩ := headv_hd (E := E) (db := db) (br := br) (n := n) hok
      have HC : Hid (headv E db br n = .agg cs.toArray) := hcs
      have hR1 : RepoAt X1 w.heap.size N rb ob q1 q2 0 A (tab E n) := by rw [hX1]; exact hR0.alloc _
      have hB1 : Below w.heap.size w X1 := by rw [hX1]; exact hB0.alloc hB0.size _
      have hT1 : X1.heap[N]? = some (.cells zl.toArray 30) := by rw [hX1]; exact blk_at hN
      have hS1 : Hid (X1.heap.size = N + 1) := by show X1.heap.size = _; rw [hX1, hN]; simp
      have hBN : w.heap.size ≤ N := by rw [hN]; exact hB0.size
      clear hcs hR0 hB0
      go_upto_block 0 with fail
      rw [← hX1, ← hN]
      clear hX1 hN
      go_cut [18, 19] from 69 to 107 (fun ok i x => ok = .bool (lastv E db br n).isSome ∧ x.rangeAt N 0 cs ∧ Below N X1 x ∧ N + 1 ≤ x.heap.size)
      case first =>
        go_wp2_with fail
        go_loopw [18, 19] (fun ok i x => ∃ k : Nat, k ≤ n ∧ ok = .bool false ∧ i = .int .i64 ((k : Int) - 1) ∧ Hid (lastv E db br n = lastv E db br k) ∧ x = X1) (fun _ i _ => (intOf i + 1).toNat)
        case atStart => exact ⟨n, Nat.le_refl _, rfl, by simp, rfl, rfl⟩
        case round =>
          obtain ⟨k, hk, rfl, rfl, hlast, hx⟩ := hrel
          rw [hx]
          clear hx
          cases k with
          | zero =>
            have hc : lastv E db br n = none := hlast.out
            have h1 : cs = zl := by
              have := HC.out
              unfold headv at this
              rw [hc] at this
              simp [zhd] at this
              exact this.symm
            go_wp2_with fail
            go_meet
            refine ⟨by rw [hc]; rfl, ?_, Below.refl _ _, Nat.le_of_eq hS1.out.symm⟩
            rw [h1]
            simpa using range_block hT1
          | succ j =>
            have hj : j < n := by omega
            have i0 : (j : Int) < (n : Int) := by omega
            rw [show (((j + 1 : Nat) : Int) - 1) = (j : Int) by omega]
            obtain ⟨b, o, ha, hbl, hr, ok⟩ := HE.out j hj
            subst ha
            have hI := entIs_of (range_below hr hB1 hbl) ok
            have e0 := hI.c0
            have e1 := hI.c1
            have e42 := hI.c42
            have hend : ¬ (E j).Hits db br → (∃ k : Nat, k ≤ n ∧ Value.bool false = .bool false ∧ Value.int .i64 ((j : Int) - 1) = .int .i64 ((k : Int) - 1) ∧ Hid (lastv E db br n = lastv E db br k) ∧ True) ∧ (intOf (.int .i64 ((j : Int) - 1)) + 1).toNat < (intOf (.int .i64 (j : Int)) + 1).toNat := by
              intro hm
              refine ⟨⟨j, by omega, rfl, rfl, ?_, trivial⟩, by simp [intOf]⟩
              show lastv E db br n = lastv E db br j
              rw [hlast.out, lastv_miss hm]
            cases hon : (E j).only with
            | true =>
              rw [hon] at e42
              go_wp2_with fail
              exact hend fun h => by rw [h.1] at hon; cases hon
            | false =>
              rw [hon] at e42
              by_cases hdb : (E j).db = db
              · have q1 := bb_eq hdb
                by_cases hbr : (E j).br = br
                · have q2 := bb_eq hbr
                  have hh : lastv E db br n = some (E j).hd := by rw [hlast.out, lastv_hit ⟨hon, hdb, hbr⟩]
                  have h1 : cs = (E j).hdl := by
                    have := HC.out
                    unfold headv at this
                    rw [hh] at this
                    simp [Ent.hd] at this
                    exact this.symm
                  have HH : Hid (lastv E db br n = some (E j).hd) := hh
                  clear hh hend
                  have b30 : ∀ w, (Instr.build 30 #[(0, .agg (E j).cm.toArray), (1, .agg (E j).wk.toArray)]).run Yba.prog w = .ok (.agg (E j).hdl.toArray) w := build30 ok.cm ok.wk
                  have hth : X1.drew.there N 0 40 := there_block (w := X1.drew) hT1 (by simp [zl])
                  have hM : Moved X1 (X1.drew.setCells N 0 (E j).hdl) (fun k => k = N) := Moved.trans (b := X1.drew) ⟨rfl, rfl, rfl, Nat.le_refl _, fun _ _ _ => rfl⟩ (Moved.setCells N (E j).hdl 0 X1.drew) fun i hi => .inl hi
                  have hrg : (X1.drew.setCells N 0 (E j).hdl).rangeAt N 0 (E j).hdl := World.rangeAt_setCells_same _ _ _ _ (by rw [ok.hdl_len]; exact hth)
                  have hbN : b ≠ N := by have : b < w.heap.size := hbl; omega
                  go_wp2_with fail
                  refine wp_region_held_drew (S := fun w' => w'.rangeAt b (o + j * 43 + 2) (E j).cm ∧ w'.rangeAt b (o + j * 43 + 22) (E j).wk) (by kernel_rfl) ⟨hI.r2, hI.r22⟩ (fun hS => ?_)
                  refine wpAnyH_take (i := 0) (v := .slice (some ⟨b, o, none⟩) n cap0) rfl (by kernel_rfl) (by kernel_rfl) (by kernel_rfl) (fun _ _ _ h => h) (Or.inl ⟨by rfl, fun W hW => ?_⟩) hS ?_
                  · obtain ⟨s0, s1⟩ := hW
                    go_simp
                  try simp only [Act.put, List.setIfInBounds_toArray, List.set_cons_zero, List.set_cons_succ, List.getElem_toArray, List.getElem_cons_zero, List.getElem_cons_succ]
                  refine wpAnyH_take (i := 1) (v := .int .i64 (j : Int)) rfl (by kernel_rfl) (by kernel_rfl) (by kernel_rfl) (fun _ _ _ h => h) (Or.inl ⟨by rfl, fun W hW => ?_⟩) hS ?_
                  · obtain ⟨s0, s1⟩ := hW
                    go_simp
                  try simp only [Act.put, List.setIfInBounds_toArray, List.set_cons_zero, List.set_cons_succ, List.getElem_toArray, List.getElem_cons_zero, List.getElem_cons_succ]
                  refine wpAnyH_take (i := 2) (v := .pointer (some ⟨b, o + j * 43, none⟩)) rfl (by kernel_rfl) (by kernel_rfl) (by kernel_rfl) (fun _ _ _ h => h) (Or.inl ⟨by rfl, fun W hW => ?_⟩) hS ?_
                  · obtain ⟨s0, s1⟩ := hW
                    go_simp
                  try simp only [Act.put, List.setIfInBounds_toArray, List.set_cons_zero, List.set_cons_succ, List.getElem_toArray, List.getElem_cons_zero, List.getElem_cons_succ]
                  refine wpAnyH_take (i := 3) (v := .pointer (some ⟨b, o + j * 43 + 2, none⟩)) rfl (by kernel_rfl) (by kernel_rfl) (by kernel_rfl) (fun _ _ _ h => h) (Or.inl ⟨by rfl, fun W hW => ?_⟩) hS ?_
                  · obtain ⟨s0, s1⟩ := hW
                    go_simp
                  try simp only [Act.put, List.setIfInBounds_toArray, List.set_cons_zero, List.set_cons_succ, List.getElem_toArray, List.getElem_cons_zero, List.getElem_cons_succ]
                  refine wpAnyH_take (i := 4) (v := .agg (E j).cm.toArray) rfl (by kernel_rfl) (by kernel_rfl) (by kernel_rfl) (fun _ _ _ h => h) (yieldsIf_load_mid (by rfl) 25 _ rfl b (o + j * 43 + 2) rfl (E j).cm _ (fun _ h => h.1) Yba.underlying25 rfl (by rw [size25, ok.cm])) hS ?_
                  try simp only [Act.put, List.setIfInBounds_toArray, List.set_cons_zero, List.set_cons_succ, List.getElem_toArray, List.getElem_cons_zero, List.getElem_cons_succ]
                  refine wpAnyH_take (i := 5) (v := .slice (some ⟨b, o, none⟩) n cap0) rfl (by kernel_rfl) (by kernel_rfl) (by kernel_rfl) (fun _ _ _ h => h) (Or.inl ⟨by rfl, fun W hW => ?_⟩) hS ?_
                  · obtain ⟨s0, s1⟩ := hW
                    go_simp
                  try simp only [Act.put, List.setIfInBounds_toArray, List.set_cons_zero, List.set_cons_succ, List.getElem_toArray, List.getElem_cons_zero, List.getElem_cons_succ]
                  refine wpAnyH_take (i := 6) (v := .int .i64 (j : Int)) rfl (by kernel_rfl) (by kernel_rfl) (by kernel_rfl) (fun _ _ _ h => h) (Or.inl ⟨by rfl, fun W hW => ?_⟩) hS ?_
                  · obtain ⟨s0, s1⟩ := hW
                    go_simp
                  try simp only [Act.put, List.setIfInBounds_toArray, List.set_cons_zero, List.set_cons_succ, List.getElem_toArray, List.getElem_cons_zero, List.getElem_cons_succ]
                  refine wpAnyH_take (i := 7) (v := .pointer (some ⟨b, o + j * 43, none⟩)) rfl (by kernel_rfl) (by kernel_rfl) (by kernel_rfl) (fun _ _ _ h => h) (Or.inl ⟨by rfl, fun W hW => ?_⟩) hS ?_
                  · obtain ⟨s0, s1⟩ := hW
                    go_simp
                  try simp only [Act.put, List.setIfInBounds_toArray, List.set_cons_zero, List.set_cons_succ, List.getElem_toArray, List.getElem_cons_zero, List.getElem_cons_succ]
                  refine wpAnyH_take (i := 8) (v := .pointer (some ⟨b, o + j * 43 + 22, none⟩)) rfl (by kernel_rfl) (by kernel_rfl) (by kernel_rfl) (fun _ _ _ h => h) (Or.inl ⟨by rfl, fun W hW => ?_⟩) hS ?_
                  · obtain ⟨s0, s1⟩ := hW
                    go_simp
                  try simp only [Act.put, List.setIfInBounds_toArray, List.set_cons_zero, List.set_cons_succ, List.getElem_toArray, List.getElem_cons_zero, List.getElem_cons_succ]
                  refine wpAnyH_take (i := 9) (v := .agg (E j).wk.toArray) rfl (by kernel_rfl) (by kernel_rfl) (by kernel_rfl) (fun _ _ _ h => h) (yieldsIf_load_mid (by rfl) 25 _ rfl b (o + j * 43 + 22) rfl (E j).wk _ (fun _ h => h.2) Yba.underlying25 rfl (by rw [size25, ok.wk])) hS ?_
                  try simp only [Act.put, List.setIfInBounds_toArray, List.set_cons_zero, List.set_cons_succ, List.getElem_toArray, List.getElem_cons_zero, List.getElem_cons_succ]
                  refine wpAnyH_take (i := 10) (v := .agg (E j).hdl.toArray) rfl (by kernel_rfl) (by kernel_rfl) (by kernel_rfl) (fun _ _ _ h => h) (Or.inl ⟨by rfl, fun W _ => exec_build rfl (by simp only [List.map_toArray, List.map_cons, List.map_nil]; exact b30 W)⟩) hS ?_
                  try simp only [Act.put, List.setIfInBounds_toArray, List.set_cons_zero, List.set_cons_succ, List.getElem_toArray, List.getElem_cons_zero, List.getElem_cons_succ]
                  refine wpAnyH_ready (rs := [11]) (by kernel_rfl) (by simp) (AllReadyH.cons rfl (fun K hK => ?_) AllReadyH.nil)
                  rw [if_pos (by rfl)]
                  refine wp_store_mid 30 _ _ rfl N 0 (E j).hdl.toArray rfl rfl (by simpa [ok.hdl_len] using hth) (by rw [size30]; simp [ok.hdl_len]) (all_oneCell_toArray ok.hdl_bytes.one) ?_
                  refine hK.out _ (X1.drew.setCells N 0 (E j).hdl) ⟨?_, ?_⟩ (fun hS => ?_)
                  · exact World.rangeAt_setCells_apart hS.1 _ _ _ (.inl hbN)
                  · exact World.rangeAt_setCells_apart hS.2 _ _ _ (.inl hbN)
                  clear hK K
                  try simp only [Act.put, List.setIfInBounds_toArray, List.set_cons_zero, List.set_cons_succ, List.getElem_toArray, List.getElem_cons_zero, List.getElem_cons_succ]
                  refine wpAnyH_done (by kernel_rfl) ?_ _
                  clear hS hth
                  generalize X1.drew.setCells N 0 (E j).hdl = X2 at *
                  go_simp
                  go_wp2_with fail
                  go_meet
                  refine ⟨by rw [HH.out]; rfl, ?_, ?_, ?_⟩
                  · rw [h1]; exact hrg
                  · exact hM.below (by rw [hS1.out]; omega) (fun b e => by omega)
                  · have := hM.size; rw [hS1.out] at this; exact this
                · have q2 := bb_ne hbr
                  go_wp2_with fail
                  exact hend fun h => hbr h.2.2
              · have q1 := bb_ne hdb
                go_wp2_with fail
                exact hend fun h => hdb h.2.1
      case rest =>
        obtain ⟨rfl, hr2, hb2, hs2⟩ := hcut
        generalize wc = x2 at *
        clear hT1 hS1
        have hR2 := hR1.below hb2
        have hB2 : Below w.heap.size w x2 := hB1.trans (hb2.mono hBN)
        clear hR1 hB1 hb2
        obtain ⟨len, hlen⟩ : ∃ len : Nat → Nat, ∀ j, len j = (tab E n (E j).db).length := ⟨_, fun _ => rfl⟩
        obtain ⟨okf, hokf⟩ : ∃ okf : Nat → Bool, ∀ j, okf j = (lastv E (E j).db (E j).br n).isSome := ⟨_, fun _ => rfl⟩
        obtain ⟨L, hL⟩ : ∃ L : Nat → List Value, ∀ j, headv E (E j).db (E j).br n = .agg (L j).toArray ∧ (L j).length = 40 ∧ Bytes (L j) :=
          ⟨fun j => Classical.choose (headv_hd (E := E) (db := (E j).db) (br := (E j).br) (n := n) hok), fun j => Classical.choose_spec (headv_hd (E := E) (db := (E j).db) (br := (E j).br) (n := n) hok)⟩
        have HL : Hid ((∀ j, len j = (tab E n (E j).db).length) ∧ (∀ j, okf j = (lastv E (E j).db (E j).br n).isSome) ∧ ∀ j, headv E (E j).db (E j).br n = .agg (L j).toArray ∧ (L j).length = 40 ∧ Bytes (L j)) := ⟨hlen, hokf, hL⟩
        clear hlen hokf hL
        have k3 := hR2.cell3
        have hln : ∀ ty, (Builtin.len_ #[39] ty #[.map (some ob)]).run Yba.prog x2 = .ok (goInt A.length) x2 := fun ty => hR2.len
        have m45 := make45 n hn
        have m46 := make46 n hn
        have m47 := make47 n hn
        obtain ⟨G, hG⟩ : ∃ G, G = x2.heap.size := ⟨_, rfl⟩
        have hst := Rws.start x2 n len L okf
        obtain ⟨X3, hX3⟩ : ∃ X3, X3 = ((x2.alloc (.cells (rep n (.int .i64 0)) 3)).alloc (.cells (c46 n) 30)).alloc (.cells (rep n (.bool false)) 4) := ⟨_, rfl⟩
        have hb3 : Below G x2 X3 := by
          rw [hX3, hG]
          exact (((Below.refl _ x2).alloc (Nat.le_refl _) _).alloc (by simp) _).alloc (by simp; omega) _
        rw [← hX3, ← hG] at hst
        rw [← hG] at hs2
        go_upto_block 2 with fail
        rw [← hX3, ← hG]
        clear hX3 hG m45 m46 m47 hln k3
        go_wp2_with fail
        go_loopw [24] (fun i x => ∃ k : Nat, k ≤ n ∧ i = .int .i64 (k : Int) ∧ Below G x2 x ∧ Rws x G n k k k len L okf) (fun i _ => n - (intOf i).toNat)
        case atStart => exact ⟨0, by omega, rfl, hb3, hst⟩
        case round =>
          obtain ⟨k, hk, rfl, hb, hW⟩ := hrel
          clear hst hb3
          by_cases hlt : k < n
          · as_aux_lemma =>
              have hRx : RepoAt wr w.heap.size N rb ob q1 q2 0 A (tab E n) := hR2.below (hb.mono (by omega))
              have hBx : Below w.heap.size w wr := hB2.trans (hb.mono (by omega))
              obtain ⟨b, o, ha, hbl, hr, ok⟩ := HE.out k hlt
              subst ha
              have hI := entIs_of (range_below hr hBx hbl) ok
              have i0 : (k : Int) < (n : Int) := by omega
              have f3 := hRx.cell3
              have e0 := hI.c0
              obtain ⟨v1, c1, z1⟩ := hW.c1 hlt
              have hW1 : Rws (wr.setCell ⟨G, k, none⟩ (.int .i64 (len k))).drew G n (k + 1) k k len L okf := (hW.set1 hlt).drew
              have hb1 : Below G x2 (wr.setCell ⟨G, k, none⟩ (.int .i64 (len k))).drew := (hb.setCell (Nat.le_refl _) _).drew
              obtain ⟨Y1, hY1⟩ : ∃ Y1, Y1 = (wr.setCell ⟨G, k, none⟩ (.int .i64 (len k))).drew := ⟨_, rfl⟩
              rw [← hY1] at hW1 hb1
              have hR1 : RepoAt Y1 w.heap.size N rb ob q1 q2 0 A (tab E n) := hR2.below (hb1.mono (by omega))
              have hB1 : Below w.heap.size w Y1 := hB2.trans (hb1.mono (by omega))
              have hJ := entIs_of (range_below hr hB1 hbl) ok
              have g3 := hR1.cell3
              have g0 := hJ.c0
              have g1 := hJ.c1
              have hlk : ∀ W, RepoAt W w.heap.size N rb ob q1 q2 0 A (tab E n) → (Instr.lookup 48 ((SM.look A (E k).db).getD (.map none)) (.string (E k).br) true).run Yba.prog W = .ok (.tuple #[.agg (L k).toArray, .bool (okf k)]) W := by
                intro W h
                have := (h.tabs (E k).db).find (E k).br
                rw [tab_look] at this
                rw [this, HL.out.2.1 k, ← (HL.out.2.2 k).1]
                rfl
              have hlen : ∀ ty, (Builtin.len_ #[48] ty #[(SM.look A (E k).db).getD (.map none)]).run Yba.prog wr.drew = .ok (goInt (len k)) wr.drew := fun ty => by
                rw [HL.out.1 k]; exact (hRx.drew.tabs (E k).db).len
              have f39 := hRx.drew.find (E k).db
              have p39 := hR1.drew.find (E k).db
              have hR1z : RepoAt (Y1.alloc (.cells zl.toArray 30)) w.heap.size N rb ob q1 q2 0 A (tab E n) := hR1.alloc _
              have p39' := hR1z.drew.find (E k).db
              have hJz := entIs_of (range_below hr (hB1.alloc hB1.size (.cells zl.toArray 30)) hbl) ok
              have g3' := hR1z.cell3
              have g0' := hJz.c0
              have g1' := hJz.c1
              have p48 := hlk _ hR1.drew
              have p48' := hlk _ hR1z.drew
              have l40 : (L k).length = 40 := (HL.out.2.2 k).2.1
              have sv : (storeCells ⟨Y1.heap.size, 0, none⟩ (L k) 0).run Yba.prog (Y1.alloc (.cells zl.toArray 30)).drew = .ok () (Y1.alloc (.cells (L k).toArray 30)).drew := sc30n (w := Y1.drew) (HL.out.2.2 k).2.1 (HL.out.2.2 k).2.2
              have hW2 := (hW1.alloc (.cells (L k).toArray 30)).drew
              have hb2 : Below G x2 (Y1.alloc (.cells (L k).toArray 30)).drew := (hb1.alloc (by have := hW1.size; omega) _).drew
              have hq2 : (Y1.alloc (.cells (L k).toArray 30)).drew.heap[Y1.heap.size]? = some (.cells (L k).toArray 30) := blk_new Y1 _
              generalize (Y1.alloc (.cells (L k).toArray 30)).drew = Y2 at *
              have lv : Y2.rangeAt Y1.heap.size 0 (L k) := by simpa using range_block hq2
              have sw := sc30 (hW2.th2 hlt) (HL.out.2.2 k).2.1 (HL.out.2.2 k).2.2
              have hW3 := hW2.set2 hlt fun j => (HL.out.2.2 j).2.1
              have hb3 : Below G x2 (Y2.setCells (G + 1) (k * 40) (L k)) := hb2.trans ((Moved.setCells (G + 1) (L k) (k * 40) Y2).below (by have := hW2.size; omega) (fun b e => by omega))
              generalize Y2.setCells (G + 1) (k * 40) (L k) = Y3 at *
              obtain ⟨v3, c3, z3⟩ := hW3.c3 hlt
              have hW4 := hW3.set3 hlt
              have hb4 : Below G x2 (Y3.setCell ⟨G + 1 + 1, k, none⟩ (.bool (okf k))) := hb3.setCell (by show G ≤ G + 1 + 1; omega) _
              generalize hv : (SM.look A (E k).db).getD (.map none) = v at *
              clear hv hlk hq2 hI hJ hJz hR1z hR1 hRx hB1 hBx hr
              go_wp2_with fail
              go_region
              rw [← hY1]
              clear hY1 f39 hlen f3 e0 c1 z1
              generalize hD1 : Y1.heap.size = y1 at *
              go_wp2_with fail
              go_region
              clear p39 p39' p48 p48' g0 g1 g3 g0' g1' g3' sv
              go_wp2_with (refine wpList_load_w (by rfl) 30 _ rfl y1 0 rfl (L k) _ lv Yba.underlying30 rfl (by rw [size30, l40]) ?hld1)
              exact ⟨⟨k + 1, by omega, by simp, hb4, hW4⟩, by simp [intOf]; omega⟩
          · have hkn : n = k := by omega
            subst hkn
            have hRx : RepoAt wr w.heap.size N rb ob q1 q2 0 A (tab E n) := hR2.below (hb.mono (by omega))
            have hBx : Below w.heap.size w wr := hB2.trans (hb.mono (by omega))
            have hrx : wr.rangeAt N 0 cs := range_below hr2 hb (by omega)
            have hsz := hW.size
            have hhead := head_any w.heap.size N rb ob q1 q2 A (tab E n) db br cs wr hRx (by omega) (by rw [tab_look]; exact HC.out) hcl hcb
            rw [tab_look] at hhead
            clear hR2 hB2 hr2 hb
            go_wp2_with (go_at_call 5; refine hhead.mono ?_)
            rintro e x4 ⟨rfl, hR4, hM4⟩
            have hW4 : Rws x4 G n n n n len L okf := hW.moved hM4 fun b e => by have := hRx.hi.1; omega
            have hB4 : Below w.heap.size w x4 := hBx.trans (hM4.below hBx.size fun b e => by have := hRx.lo.1; omega)
            have hr4 : x4.rangeAt N 0 cs := fun j v hv => by
              rw [World.cell?_of_block (w := wr) (hM4.block N (by omega) (fun e => by have := hRx.hi.1; omega))]
              exact hrx j v hv
            clear hhead hRx hBx hrx hW hM4 hsz
            have sv : (storeCells ⟨x4.heap.size, 0, none⟩ cs 0).run Yba.prog (x4.alloc (.cells zl.toArray 30)) = .ok () (x4.alloc (.cells cs.toArray 30)) := sc30n hcl hcb
            have hR5 := hR4.alloc (.cells cs.toArray 30)
            have hW5 := hW4.alloc (.cells cs.toArray 30)
            have hB5 := hB4.alloc hB4.size (.cells cs.toArray 30)
            have lN := World.rangeAt_alloc hr4 (.cells cs.toArray 30)
            have lH : (x4.alloc (.cells cs.toArray 30)).rangeAt x4.heap.size 0 cs := by simpa using range_block (blk_new x4 (.cells cs.toArray 30))
            generalize x4.alloc (.cells cs.toArray 30) = x5 at *
            have hne := neq30_same hcl hcb
            generalize hbv : (lastv E db br n).isSome = bv at *
            clear hbv
            have c1 := hR5.cell1
            have z1 := hR5.free 1
            go_wp2_with (first | (go_at_call 6; refine (try_free ⟨rb, 1, none⟩ _ c1 z1).mono ?_) | (refine wpList_load_w (by rfl) 30 _ rfl N 0 rfl cs _ lN Yba.underlying30 rfl (by rw [size30, hcl]) ?hld2) | (refine wpList_load_w (by rfl) 30 _ rfl x4.heap.size 0 rfl cs _ lH Yba.underlying30 rfl (by rw [size30, hcl]) ?hld3))
            rintro e x6 ⟨rfl, hx6⟩
            have hR6 : RepoAt x6 w.heap.size N rb ob q1 q2 1 A (tab E n) := by rw [hx6]; exact hR5.lock 1
            have hM6 : Moved x5 x6 (fun b => b = rb) := by rw [hx6]; exact Moved.setCell _ _ _
            have hW6 : Rws x6 G n n n n len L okf := hW5.moved hM6 fun b e => by have := hR5.hi.1; omega
            have hB6 : Below w.heap.size w x6 := hB5.trans (hM6.below hB5.size fun b e => by have := hR5.lo.1; omega)
            clear hx6 hM6 hR5 hW5 hB5 lN lH sv c1 z1 hne hR4 hW4 hB4 hr4
            have c1 := hR6.cell1
            have z1 := hR6.free 1
            go_wp2_with (go_at_call 7; refine (MuLone.unlock_held muLib ⟨rb, 1, none⟩ _ c1 z1).mono ?_)
            rintro e x7 ⟨rfl, hx7⟩
            have hR7 : RepoAt x7 w.heap.size N rb ob q1 q2 0 A (tab E n) := by rw [hx7]; exact hR6.lock 0
            have hM7 : Moved x6 x7 (fun b => b = rb) := by rw [hx7]; exact Moved.setCell _ _ _
            have hW7 : Rws x7 G n n n n len L okf := hW6.moved hM7 fun b e => by have := hR6.hi.1; omega
            have hB7 : Below w.heap.size w x7 := hB6.trans (hM7.below hB6.size fun b e => by have := hR6.lo.1; omega)
            clear hx7 hM7 hR6 hW6 hB6 c1 z1
            have k3 := hR7.cell3
            have hln : ∀ ty, (Builtin.len_ #[39] ty #[.map (some ob)]).run Yba.prog x7 = .ok (goInt A.length) x7 := fun ty => hR7.len
            go_wp2_with fail
            clear k3 hln
            generalize hM : x7.heap.size = M at *
            have hM' : Hid (x7.heap.size = M) := hM
            have hGM : G + 3 ≤ M := by rw [← hM]; exact hW7.size
            clear hM
            go_loopw [29] (fun i x => ∃ k : Nat, k ≤ n ∧ i = .int .i64 (k : Int) ∧ Below M x7 x) (fun i _ => n - (intOf i).toNat)
            case atStart => exact ⟨0, by omega, rfl, Below.refl _ _⟩
            case round =>
              obtain ⟨k, hk, rfl, hb⟩ := hrel
              by_cases hlt : k < n
              · as_aux_lemma =>
                  have hq : ∀ m, RepoAt (wr.drewN m) w.heap.size N rb ob q1 q2 0 A (tab E n) ∧ Below M x7 (wr.drewN m) ∧ Rws (wr.drewN m) G n n n n len L okf := fun m =>
                    ⟨(hR7.below (hb.mono (by omega))).drewN m, ⟨hb.os, hb.tape, hb.output, hb.size, hb.block⟩, (hW7.below hb hGM).drewN m⟩
                  obtain ⟨b, o, ha, hbl, hr, ok⟩ := HE.out k hlt
                  subst ha
                  have hI := fun m => entIs_of (range_below hr (hB7.trans ((hq m).2.1.mono (by omega))) hbl) ok
                  have i0 : (k : Int) < (n : Int) := by omega
                  have f3 : wr.cell? ⟨rb, 3, none⟩ = _ := (hq 0).1.cell3
                  have e0 : wr.cell? ⟨b, o + k * 43, none⟩ = _ := (hI 0).c0
                  have v1 : wr.cell? ⟨G, k, none⟩ = _ := (hq 0).2.2.v1 hlt
                  have hlk : ∀ W, RepoAt W w.heap.size N rb ob q1 q2 0 A (tab E n) → (Instr.lookup 48 ((SM.look A (E k).db).getD (.map none)) (.string (E k).br) true).run Yba.prog W = .ok (.tuple #[.agg (L k).toArray, .bool (okf k)]) W := by
                    intro W h
                    have := (h.tabs (E k).db).find (E k).br
                    rw [tab_look] at this
                    rw [this, HL.out.2.1 k, ← (HL.out.2.2 k).1]
                    rfl
                  have hlen : ∀ m ty, (Builtin.len_ #[48] ty #[(SM.look A (E k).db).getD (.map none)]).run Yba.prog (wr.drewN m) = .ok (goInt (len k)) (wr.drewN m) := fun m ty => by
                    rw [HL.out.1 k]; exact ((hq m).1.tabs (E k).db).len
                  have hfd : ∀ W, RepoAt W w.heap.size N rb ob q1 q2 0 A (tab E n) → (Instr.lookup 39 (.map (some ob)) (.string (E k).db) false).run Yba.prog W = .ok ((SM.look A (E k).db).getD (.map none)) W := fun W h => h.find (E k).db
                  have f39 : ∀ m, _ := fun m => hfd (wr.drewN m) (hq m).1
                  generalize hv : (SM.look A (E k).db).getD (.map none) = v at *
                  clear hv
                  go_wp2_with fail
                  go_quiet (fail)
                  obtain ⟨hR0, hb0, hW0⟩ := hq nq
                  have hI0 := hI nq
                  clear f3 e0 v1 hlen f39 hq hI
                  go_wp2_with fail
                  generalize wr.drewN nq = Z0 at *
                  have hB0 : Below w.heap.size w Z0 := hB7.trans (hb0.mono (by omega))
                  have hRz : RepoAt (Z0.alloc (.cells zl.toArray 30)) w.heap.size N rb ob q1 q2 0 A (tab E n) := hR0.alloc _
                  have hJz := entIs_of (range_below hr (hB0.alloc hB0.size (.cells zl.toArray 30)) hbl) ok
                  have g3 := hR0.cell3
                  have g0 := hI0.c0
                  have g1 := hI0.c1
                  have g3' := hRz.cell3
                  have g0' := hJz.c0
                  have g1' := hJz.c1
                  have p39 := hfd _ hR0.drew
                  have p39' := hfd _ hRz.drew
                  have p48 := hlk _ hR0.drew
                  have p48' := hlk _ hRz.drew
                  have l40 : (L k).length = 40 := (HL.out.2.2 k).2.1
                  have sv : (storeCells ⟨Z0.heap.size, 0, none⟩ (L k) 0).run Yba.prog (Z0.alloc (.cells zl.toArray 30)).drew = .ok () (Z0.alloc (.cells (L k).toArray 30)).drew := sc30n (w := Z0.drew) (HL.out.2.2 k).2.1 (HL.out.2.2 k).2.2
                  have hW2 := (hW0.alloc (.cells (L k).toArray 30)).drew
                  have hb2 : Below M x7 (Z0.alloc (.cells (L k).toArray 30)).drew := (hb0.alloc (by rw [← hM'.out]; exact hb0.size) _).drew
                  have hq2 : (Z0.alloc (.cells (L k).toArray 30)).drew.heap[Z0.heap.size]? = some (.cells (L k).toArray 30) := blk_new Z0 _
                  generalize (Z0.alloc (.cells (L k).toArray 30)).drew = Y2 at *
                  have hq3 : Y2.rangeAt Z0.heap.size 0 (L k) := by simpa using range_block hq2
                  have hq4 : Y2.rangeAt (G + 1) (k * 40) (L k) := hW2.r2.2 k hlt
                  have v3 := hW2.v3 hlt
                  have hne := neq30_same (HL.out.2.2 k).2.1 (HL.out.2.2 k).2.2
                  have hfin : Below M x7 Y2.drew := hb2.drew
                  clear hJz hI0 hRz hR0 hW0 hb0 hB0 hW2 hb2 hq2 hlk hfd hr
                  go_region
                  clear p39 p39' p48 p48' g0 g1 g3 g0' g1' g3' sv
                  go_wp2_with fail
                  generalize Z0.heap.size = z0 at *
                  refine wp_region_held_drew (S := fun w' => w'.rangeAt z0 0 (L k) ∧ w'.rangeAt (G + 1) (k * 40) (L k) ∧ w'.cell? ⟨G + 1 + 1, k, none⟩ = some (.bool (okf k))) (by kernel_rfl) ⟨hq3, hq4, v3⟩ (fun hS => ?_)
                  refine wpAnyH_take (i := 0) (v := .agg (L k).toArray) rfl (by kernel_rfl) (by kernel_rfl) (by kernel_rfl) (fun _ _ _ h => h) (yieldsIf_load_mid (by rfl) 30 _ rfl z0 0 rfl (L k) _ (fun _ h => h.1) Yba.underlying30 rfl (by rw [size30, l40])) hS ?_
                  try simp only [Act.put, List.setIfInBounds_toArray, List.set_cons_zero, List.set_cons_succ, List.getElem_toArray, List.getElem_cons_zero, List.getElem_cons_succ]
                  refine wpAnyH_take (i := 1) (v := .slice (some ⟨G + 1, 0, none⟩) n n) rfl (by kernel_rfl) (by kernel_rfl) (by kernel_rfl) (fun _ _ _ h => h) (Or.inl ⟨by rfl, fun W hW => ?_⟩) hS ?_
                  · obtain ⟨s0, s1, s2⟩ := hW
                    go_simp
                  try simp only [Act.put, List.setIfInBounds_toArray, List.set_cons_zero, List.set_cons_succ, List.getElem_toArray, List.getElem_cons_zero, List.getElem_cons_succ]
                  refine wpAnyH_take (i := 2) (v := .int .i64 (k : Int)) rfl (by kernel_rfl) (by kernel_rfl) (by kernel_rfl) (fun _ _ _ h => h) (Or.inl ⟨by rfl, fun W hW => ?_⟩) hS ?_
                  · obtain ⟨s0, s1, s2⟩ := hW
                    go_simp
                  try simp only [Act.put, List.setIfInBounds_toArray, List.set_cons_zero, List.set_cons_succ, List.getElem_toArray, List.getElem_cons_zero, List.getElem_cons_succ]
                  refine wpAnyH_take (i := 3) (v := .pointer (some ⟨G + 1, k * 40, none⟩)) rfl (by kernel_rfl) (by kernel_rfl) (by kernel_rfl) (fun _ _ _ h => h) (Or.inl ⟨by rfl, fun W hW => ?_⟩) hS ?_
                  · obtain ⟨s0, s1, s2⟩ := hW
                    go_simp
                  try simp only [Act.put, List.setIfInBounds_toArray, List.set_cons_zero, List.set_cons_succ, List.getElem_toArray, List.getElem_cons_zero, List.getElem_cons_succ]
                  refine wpAnyH_take (i := 4) (v := .agg (L k).toArray) rfl (by kernel_rfl) (by kernel_rfl) (by kernel_rfl) (fun _ _ _ h => h) (yieldsIf_load_mid (by rfl) 30 _ rfl (G + 1) (k * 40) rfl (L k) _ (fun _ h => h.2.1) Yba.underlying30 rfl (by rw [size30, l40])) hS ?_
                  try simp only [Act.put, List.setIfInBounds_toArray, List.set_cons_zero, List.set_cons_succ, List.getElem_toArray, List.getElem_cons_zero, List.getElem_cons_succ]
                  refine wpAnyH_take (i := 5) (v := .bool false) rfl (by kernel_rfl) (by kernel_rfl) (by kernel_rfl) (fun _ _ _ h => h) (Or.inl ⟨by rfl, fun W hW => ?_⟩) hS ?_
                  · obtain ⟨s0, s1, s2⟩ := hW
                    go_simp
                  try simp only [Act.put, List.setIfInBounds_toArray, List.set_cons_zero, List.set_cons_succ, List.getElem_toArray, List.getElem_cons_zero, List.getElem_cons_succ]
                  refine wpAnyH_take (i := 6) (v := .bool false) rfl (by kernel_rfl) (by kernel_rfl) (by kernel_rfl) (fun _ _ _ h => h) (Or.inl ⟨by rfl, fun W hW => ?_⟩) hS ?_
                  · obtain ⟨s0, s1, s2⟩ := hW
                    go_simp
                  try simp only [Act.put, List.setIfInBounds_toArray, List.set_cons_zero, List.set_cons_succ, List.getElem_toArray, List.getElem_cons_zero, List.getElem_cons_succ]
                  refine wpAnyH_take (i := 7) (v := .bool (okf k)) rfl (by kernel_rfl) (by kernel_rfl) (by kernel_rfl) (fun _ _ _ h => h) (Or.inl ⟨by rfl, fun W hW => ?_⟩) hS ?_
                  · obtain ⟨s0, s1, s2⟩ := hW
                    go_simp
                  try simp only [Act.put, List.setIfInBounds_toArray, List.set_cons_zero, List.set_cons_succ, List.getElem_toArray, List.getElem_cons_zero, List.getElem_cons_succ]
                  refine wpAnyH_take (i := 8) (v := .slice (some ⟨G + 1 + 1, 0, none⟩) n n) rfl (by kernel_rfl) (by kernel_rfl) (by kernel_rfl) (fun _ _ _ h => h) (Or.inl ⟨by rfl, fun W hW => ?_⟩) hS ?_
                  · obtain ⟨s0, s1, s2⟩ := hW
                    go_simp
                  try simp only [Act.put, List.setIfInBounds_toArray, List.set_cons_zero, List.set_cons_succ, List.getElem_toArray, List.getElem_cons_zero, List.getElem_cons_succ]
                  refine wpAnyH_take (i := 9) (v := .int .i64 (k : Int)) rfl (by kernel_rfl) (by kernel_rfl) (by kernel_rfl) (fun _ _ _ h => h) (Or.inl ⟨by rfl, fun W hW => ?_⟩) hS ?_
                  · obtain ⟨s0, s1, s2⟩ := hW
                    go_simp
                  try simp only [Act.put, List.setIfInBounds_toArray, List.set_cons_zero, List.set_cons_succ, List.getElem_toArray, List.getElem_cons_zero, List.getElem_cons_succ]
                  refine wpAnyH_take (i := 10) (v := .pointer (some ⟨G + 1 + 1, k, none⟩)) rfl (by kernel_rfl) (by kernel_rfl) (by kernel_rfl) (fun _ _ _ h => h) (Or.inl ⟨by rfl, fun W hW => ?_⟩) hS ?_
                  · obtain ⟨s0, s1, s2⟩ := hW
                    go_simp
                  try simp only [Act.put, List.setIfInBounds_toArray, List.set_cons_zero, List.set_cons_succ, List.getElem_toArray, List.getElem_cons_zero, List.getElem_cons_succ]
                  refine wpAnyH_take (i := 11) (v := .bool (okf k)) rfl (by kernel_rfl) (by kernel_rfl) (by kernel_rfl) (fun _ _ _ h => h) (Or.inl ⟨by rfl, fun W hW => ?_⟩) hS ?_
                  · obtain ⟨s0, s1, s2⟩ := hW
                    go_simp
                  try simp only [Act.put, List.setIfInBounds_toArray, List.set_cons_zero, List.set_cons_succ, List.getElem_toArray, List.getElem_cons_zero, List.getElem_cons_succ]
                  refine wpAnyH_take (i := 12) (v := .bool false) rfl (by kernel_rfl) (by kernel_rfl) (by kernel_rfl) (fun _ _ _ h => h) (Or.inl ⟨by rfl, fun W hW => ?_⟩) hS ?_
                  · obtain ⟨s0, s1, s2⟩ := hW
                    go_simp
                  try simp only [Act.put, List.setIfInBounds_toArray, List.set_cons_zero, List.set_cons_succ, List.getElem_toArray, List.getElem_cons_zero, List.getElem_cons_succ]
                  refine wpAnyH_take (i := 13) (v := .bool false) rfl (by kernel_rfl) (by kernel_rfl) (by kernel_rfl) (fun _ _ _ h => h) (Or.inl ⟨by rfl, fun W hW => ?_⟩) hS ?_
                  · obtain ⟨s0, s1, s2⟩ := hW
                    go_simp
                  try simp only [Act.put, List.setIfInBounds_toArray, List.set_cons_zero, List.set_cons_succ, List.getElem_toArray, List.getElem_cons_zero, List.getElem_cons_succ]
                  refine wpAnyH_done (by kernel_rfl) ?_ _
                  clear hS
                  go_simp
                  go_wp2_with fail
                  exact ⟨⟨k + 1, by omega, by simp, hfin⟩, by simp [intOf]; omega⟩
              · go_wp2_with fail
                go_ret
                exact ⟨rfl, hB7.trans (hb.mono (by omega))⟩
end Go.Proofs.Ybulkexozu
