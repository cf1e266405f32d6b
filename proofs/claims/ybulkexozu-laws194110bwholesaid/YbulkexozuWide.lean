/- LawS194110BWhole: the wide types (25, 27, 30): sizes, zero, build, equality. -/
import Derived.Test.YbulkexozuRows
import Derived.Test.YbulkexozuPlain
import Derived.Laws.StructEq
import Derived.Laws.Tables
namespace Go.Proofs.Ybulkexozu
open Go.SM

theorem size25 : (Yba.prog.info? 25).map (·.size) = some 20 := by kernel_rfl
theorem size27 : (Yba.prog.info? 27).map (·.size) = some 43 := by kernel_rfl
theorem size30 : (Yba.prog.info? 30).map (·.size) = some 40 := by kernel_rfl
theorem zero30 (w : World) : (zeroValue 30).run Yba.prog w = .ok zhd w := by kernel_rfl
theorem zero48 (w : World) : (zeroValue 48).run Yba.prog w = .ok (.map none) w := by kernel_rfl
theorem eql48s (w : World) (m : Nat) : (binOp .eql 48 (.map (some m)) (.map none)).run Yba.prog w = .ok (.bool false) w := by kernel_rfl
theorem eql48n (w : World) : (binOp .eql 48 (.map none) (.map none)).run Yba.prog w = .ok (.bool true) w := by kernel_rfl

theorem list20 {cs : List Value} (h : cs.length = 20) : ∃ a0 a1 a2 a3 a4 a5 a6 a7 a8 a9 b0 b1 b2 b3 b4 b5 b6 b7 b8 b9 : Value, cs = [a0, a1, a2, a3, a4, a5, a6, a7, a8, a9, b0, b1, b2, b3, b4, b5, b6, b7, b8, b9] := by
  match cs, h with
  | [a0, a1, a2, a3, a4, a5, a6, a7, a8, a9, b0, b1, b2, b3, b4, b5, b6, b7, b8, b9], _ => exact ⟨a0, a1, a2, a3, a4, a5, a6, a7, a8, a9, b0, b1, b2, b3, b4, b5, b6, b7, b8, b9, rfl⟩

theorem built30 {c d : List Value} (hc : c.length = 20) (hd : d.length = 20) : Yba.prog.built 30 [(0, .agg c.toArray), (1, .agg d.toArray)] = some (c ++ d).toArray := by
  obtain ⟨a0, a1, a2, a3, a4, a5, a6, a7, a8, a9, b0, b1, b2, b3, b4, b5, b6, b7, b8, b9, rfl⟩ := list20 hc
  obtain ⟨c0, c1, c2, c3, c4, c5, c6, c7, c8, c9, d0, d1, d2, d3, d4, d5, d6, d7, d8, d9, rfl⟩ := list20 hd
  kernel_rfl
theorem build30 {c d : List Value} (hc : c.length = 20) (hd : d.length = 20) (w : World) : (Instr.build 30 #[(0, .agg c.toArray), (1, .agg d.toArray)]).run Yba.prog w = .ok (.agg (c ++ d).toArray) w :=
  run_build w 30 _ _ (built30 hc hd)

/-- Two arrays of bytes, one and the same. -/
theorem run_equalIn_bytes {P : Program} (D : Nat) (t e : TypeId) (len : Nat) (cs : List Value) (hl : cs.length = len) (hb : Bytes cs) (w : World) (ht : P.underlying t = some (.array len e))
    (hD : ∀ (x : Int) (w : World), (Op.equalIn D e (.int .u8 x) (.int .u8 x)).run P w = .ok true w)
    (hs : ∀ w, (sizeOf e).run P w = .ok 1 w) (ha : ∀ w, (isAgg e).run P w = .ok false w) :
    (Op.equalIn (D + 1) t (.agg cs.toArray) (.agg cs.toArray)).run P w = .ok true w := by
  simp only [Op.equalIn, Sem.run_bind, run_underlying ht, Result.andThen_ok, hs]
  have key : ∀ (m : Nat) (i : Nat), i + m = len → ∀ w, (forIn (m := Sem) (List.range' i m) ((none, ()) : Option Bool × Unit) fun i (_ : Option Bool × Unit) => do
      let a ← part e cs.toArray (i * 1)
      let b ← part e cs.toArray (i * 1)
      let c ← Op.equalIn D e a b
      if (!c) = true then pure (ForInStep.done (some false, ())) else pure (ForInStep.yield (none, ()))).run P w = .ok (none, ()) w := by
    intro m
    induction m with
    | zero => intro i _ w; simp
    | succ m ih =>
      intro i hi w
      have hlt : i < cs.length := by omega
      obtain ⟨x, hx⟩ := hb cs[i] (List.getElem_mem hlt)
      have hp : (part e cs.toArray (i * 1)).run P w = .ok (.int .u8 x) w := by
        simp [part, ha, hlt, hx]
      rw [List.range'_succ, List.forIn_cons]
      simp only [Sem.run_bind, hp, Result.andThen_ok, hD]
      simp only [Bool.not_true, Bool.false_eq_true, if_false, Sem.run_pure, Result.andThen_ok]
      exact ih (i + 1) (by omega) w
  have h0 := key len 0 (by omega) w
  rw [Std.Legacy.Range.forIn_eq_forIn_range']
  have hsz : Std.Legacy.Range.size [:len] = len := by simp [Std.Legacy.Range.size]
  rw [hsz]
  rw [h0]
  rfl

theorem flds30 : (Yba.prog.fieldsOf 30) = #[{ name := "Commit", type := 28, offset := 0, embedded := false, tag := "", pkgPath := "", byteOffset := 0 },
        { name := "Working", type := 28, offset := 20, embedded := false, tag := "", pkgPath := "", byteOffset := 20 }] := by
  unfold Program.fieldsOf
  rw [Yba.underlying30]
theorem eq30_parts (D : Nat) {xs : Array Value} {a b : Value} (w : World) (e1 : (Op.equalIn D 28 a a).run Yba.prog w = .ok true w) (e2 : (Op.equalIn D 28 b b).run Yba.prog w = .ok true w)
    (p1 : (part 28 xs 0).run Yba.prog w = .ok a w) (p2 : (part 28 xs 20).run Yba.prog w = .ok b w) : (Op.equalIn (D + 1) 30 (.agg xs) (.agg xs)).run Yba.prog w = .ok true w := by
  have h := run_equalIn_agg (P := Yba.prog) w D 30 xs xs (by rw [flds30]; exact Yba.underlying30) Yba.stoodInHeld30
  rw [h, flds30]
  simp [Op.eqFields, p1, p2, e1, e2]
theorem eq28_same (d : Nat) {cs : List Value} (hl : cs.length = 20) (hb : Bytes cs) (w : World) : (Op.equalIn (d + 2) 28 (.agg cs.toArray) (.agg cs.toArray)).run Yba.prog w = .ok true w := by
  have hD : ∀ (x : Int) (w : World), (Op.equalIn (d + 1) 5 (.int .u8 x) (.int .u8 x)).run Yba.prog w = .ok true w := fun x w => by
    rw [run_equalIn_int w d 5 .u8 .u8 x x Yba.underlying5, beq_self_eq_true]
  exact run_equalIn_bytes (d + 1) 28 5 20 _ hl hb w Yba.underlying28 hD Yba.sizeOf5 Yba.isAgg5
theorem part30a (cs : List Value) (w : World) : (part 28 cs.toArray 0).run Yba.prog w = .ok (.agg (cs.take 20).toArray) w := by
  simp [part, Yba.isAgg28, Yba.sizeOf28]
theorem part30b {cs : List Value} (hl : cs.length = 40) (w : World) : (part 28 cs.toArray 20).run Yba.prog w = .ok (.agg (cs.drop 20).toArray) w := by
  have h3 : (cs.drop 20).take 20 = cs.drop 20 := List.take_of_length_le (by simp; omega)
  simp [part, Yba.isAgg28, Yba.sizeOf28, h3]
theorem eq30_same (d : Nat) {cs : List Value} (hl : cs.length = 40) (hb : Bytes cs) (w : World) : (Op.equalIn (d + 2 + 1) 30 (.agg cs.toArray) (.agg cs.toArray)).run Yba.prog w = .ok true w :=
  eq30_parts (d + 2) w (eq28_same d (by simp; omega) (fun v hv => hb v (List.mem_of_mem_take hv)) w) (eq28_same d (by simp; omega) (fun v hv => hb v (List.mem_of_mem_drop hv)) w) (part30a cs w) (part30b hl w)
theorem neq30_of (d : Nat) {xs : Array Value} (w : World) (h : (Op.equalIn d 30 (.agg xs) (.agg xs)).run Yba.prog w = .ok true w) (hd : d = 10000) : (binOp .neq 30 (.agg xs) (.agg xs)).run Yba.prog w = .ok (.bool false) w := by
  rw [run_neq_struct, ← hd, h]
  rfl
theorem neq30_same {cs : List Value} (hl : cs.length = 40) (hb : Bytes cs) (w : World) : (binOp .neq 30 (.agg cs.toArray) (.agg cs.toArray)).run Yba.prog w = .ok (.bool false) w :=
  neq30_of _ w (eq30_same 9997 hl hb w) (by decide)
end Go.Proofs.Ybulkexozu
