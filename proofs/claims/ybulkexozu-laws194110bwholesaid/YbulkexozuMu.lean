/- LawS194110BWhole: the mutex: Lock (8), Unlock (7), TryLock (6). -/
import Derived.Test.YbulkexozuRows
import Derived.Conc.MuLone
import Derived.WalkKit
import Derived.WalkSpells
namespace Go.Proofs.Ybulkexozu
open Go.Conc.Locks

abbrev muLink : MuLink := { lock := 8, unlock := 7, ilock := 11, iunlock := 10, lockSlow := 19, unlockSlow := 18, disable := 12, enable := 13, acquire := 15, relMerge := 16, cas32 := 14, add32 := 17, tMutex := 38, tIMutex := 36, tPMutex := 53, tPIMutex := 54, tPI32 := 56, tUP := 58, tNoCopy := 33, tU32 := 34 }
theorem muLib : MuLib Yba.prog muLink :=
  ⟨Yba.func8, Yba.func7, Yba.func11, Yba.func10, Yba.func12, Yba.func13, Yba.func15, Yba.func16, Yba.func14, Yba.func17, Yba.underlying36, Yba.runUnderlying36, Yba.sizeOf36, Yba.isAgg36, Yba.zeroValue36, Yba.underlying38, Yba.runUnderlying38, Yba.sizeOf38, Yba.isAgg38, Yba.zeroValue38, Yba.underlying53, Yba.runUnderlying53, Yba.sizeOf53, Yba.isAgg53, Yba.zeroValue53, Yba.underlying54, Yba.runUnderlying54, Yba.sizeOf54, Yba.isAgg54, Yba.zeroValue54, Yba.underlying56, Yba.runUnderlying56, Yba.sizeOf56, Yba.isAgg56, Yba.zeroValue56, Yba.underlying58, Yba.runUnderlying58, Yba.sizeOf58, Yba.isAgg58, Yba.zeroValue58, Yba.underlying33, Yba.runUnderlying33, Yba.sizeOf33, Yba.isAgg33, Yba.zeroValue33, Yba.underlying21, Yba.runUnderlying21, Yba.sizeOf21, Yba.isAgg21, Yba.zeroValue21, (by kernel_rfl)⟩

/-- A mutex's pointer turned to a bare one. -/
theorem to_bare {a : Addr} {v : Value} {w : World} (hc : w.cell? a = some v) : (convert 54 58 (.pointer (some a))).run Yba.prog w = .ok (.pointer (some a)) w := by
  obtain ⟨e, n, hsh, hlt, hsp⟩ := World.shape?_of_cell? hc
  obtain ⟨i, hi, hz0⟩ := Option.map_eq_some_iff.1 muLib.room_tIMutex
  have hz : i.size ≠ 0 := by simpa using hz0
  have hge : ¬ (n ≤ a.off) := by omega
  unfold convert
  simp only [run_underlying Yba.underlying54, run_underlying Yba.underlying58, Sem.run_bind, Result.andThen_ok]
  change Sem.run Yba.prog (underlying 54 >>= fun x => underlying 58 >>= fun y => _) w = _
  simp [Conv.seenAt, viewAt, cellsIn, sizeOf, typeInfo, run_underlying Yba.underlying54, run_underlying Yba.underlying58, hi, hz, hsh, hge, Result.andThen]

set_option maxHeartbeats 800000 in
set_option maxRecDepth 100000 in
theorem itry_free (a : Addr) (w : World) (hc : w.cell? a = some (.int .i32 0)) (hz : w.frozen? a = false) :
    Calls Yba.prog 9 #[.pointer (some a)] w fun e w' => e = .returned (.bool true) ∧ w' = w.setCell a (.int .i32 1) := by
  have hd := MuLone.disable muLib
  have he := MuLone.enable muLib
  have ha := MuLone.acquire muLib
  have hcas := run_call_cas_hit (P := Yba.prog) muLib.f_cas32 (by kernel_rfl) (by kernel_rfl) (by kernel_rfl) .i32 (by kernel_rfl) (y := 1) hc hz
  have hc' : (w.setCell a (.int .i32 1)).cell? a = some (.int .i32 1) := by simp [go_sem, hc]
  have hcv := to_bare hc'
  go_enter Yba.func9, Yba.ntmps9
  go_wp2
  go_ret
  exact ⟨rfl, rfl⟩

theorem try_free (a : Addr) (w : World) (hc : w.cell? a = some (.int .i32 0)) (hz : w.frozen? a = false) :
    Calls Yba.prog 6 #[.pointer (some a)] w fun e w' => e = .returned (.bool true) ∧ w' = w.setCell a (.int .i32 1) := by
  go_enter Yba.func6, Yba.ntmps6
  go_wp2_with (go_at_call 9; refine (itry_free a _ hc hz).mono ?_; rintro e w' ⟨rfl, rfl⟩)
  go_ret
  exact ⟨rfl, rfl⟩
end Go.Proofs.Ybulkexozu
