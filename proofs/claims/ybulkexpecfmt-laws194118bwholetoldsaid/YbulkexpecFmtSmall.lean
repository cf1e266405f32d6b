/- LawS194118BWhole: the small functions: id (12), exc (13), expr (6), text (14), less (15), IsID (26). -/
import Derived.Test.YbulkexpecFmtRows
import Derived.Test.YbulkexpecFmtKit
import Derived.Laws.StructEq
import Derived.MapKept
import Derived.RegionTactic
import Derived.BigRegion
import Derived.BigQuiet
import Derived.Deep.RegionWith
import Derived.Laws.ResultCell
import Derived.Laws.Rows
namespace Go.Proofs.YbulkexpecFmt
open Go.RowKit Go.PK
set_option linter.unusedVariables false

def noStr : ByteArray := { data := #[] }
def idT (k : Int) : ByteArray :=
  if k % 5 = 0 then { data := #[] } else if k % 5 = 1 then { data := #[77, 73, 84] } else if k % 5 = 2 then { data := #[65, 112, 97, 99, 104, 101, 45, 50, 46, 48] } else if k % 5 = 3 then { data := #[48, 66, 83, 68] } else { data := #[66, 83, 68, 45, 51, 45, 67, 108, 97, 117, 115, 101] }
def excT (k : Int) : ByteArray :=
  if k % 3 = 1 then { data := #[76, 76, 86, 77, 45, 101, 120, 99, 101, 112, 116, 105, 111, 110] } else if k % 3 = 2 then { data := #[67, 108, 97, 115, 115, 112, 97, 116, 104, 45, 101, 120, 99, 101, 112, 116, 105, 111, 110, 45, 50, 46, 48] } else { data := #[] }
def withS : ByteArray := { data := #[32, 87, 73, 84, 72, 32] }
def textOf (i x : ByteArray) : ByteArray := if x = noStr then i else i ++ withS ++ x

theorem bb_eq {a b : ByteArray} (h : a = b) : (a.toList == b.toList) = true := by subst h; simp
theorem bb_ne {a b : ByteArray} (h : a ≠ b) : (a.toList == b.toList) = false := by
  rw [← beq_toListBytes]
  cases hh : (a == b) with
  | false => rfl
  | true => exact absurd ((MapKept.bytes_beq _ _).1 hh) h

theorem size31 : (Ybaf.prog.info? 31).map (·.size) = some 4 := by kernel_rfl
theorem res31 {fn : Func} {p : Tmp} (h : fn.results = #[.cell p 31]) (tmps : Array Value) (w : World) (g : Nat) (cs : Array Value) (hp : tmps.getD p undef = .pointer (some ⟨g, 0, none⟩)) (hg : w.heap[g]? = some (.cells cs 31)) (hc : cs.size = 4) :
    (results fn tmps).run Ybaf.prog w = .ok (.agg cs) w := results_cell_row h tmps w g 31 cs (0, 0) _ hp hg Ybaf.underlying31 rfl (by rw [size31, hc])
set_option maxRecDepth 100000 in
theorem id_any (k : Int) (w : World) (hk : 0 ≤ k ∧ k ≤ 255) : Calls Ybaf.prog 12 #[.int .u8 k] w fun e w' => e = .returned (.string (idT k)) ∧ w' = w := by
  have ht : Int.tmod k 5 = k % 5 := Int.tmod_eq_emod_of_nonneg hk.1
  obtain ⟨r, hr⟩ : ∃ r, r = k % 5 := ⟨_, rfl⟩
  rw [← hr] at ht
  have hr5 : r = 0 ∨ r = 1 ∨ r = 2 ∨ r = 3 ∨ r = 4 := by omega
  unfold idT
  rw [← hr]
  clear hr
  go_enter Ybaf.func12, Ybaf.ntmps12
  rcases hr5 with rfl | rfl | rfl | rfl | rfl
  all_goals (go_wp2; go_ret; exact ⟨rfl, rfl⟩)

set_option maxRecDepth 100000 in
theorem exc_any (k : Int) (w : World) (hk : 0 ≤ k ∧ k ≤ 255) : Calls Ybaf.prog 13 #[.int .u8 k] w fun e w' => e = .returned (.string (excT k)) ∧ w' = w := by
  have ht : Int.tmod k 3 = k % 3 := Int.tmod_eq_emod_of_nonneg hk.1
  obtain ⟨r, hr⟩ : ∃ r, r = k % 3 := ⟨_, rfl⟩
  rw [← hr] at ht
  have hr5 : r = 0 ∨ r = 1 ∨ r = 2 := by omega
  unfold excT
  rw [← hr]
  clear hr
  go_enter Ybaf.func13, Ybaf.ntmps13
  rcases hr5 with rfl | rfl | rfl
  all_goals (go_wp2; go_ret; exact ⟨rfl, rfl⟩)

theorem em_t {x : ByteArray} (h : x = noStr) : x.toList.isEmpty = true := by subst h; rw [ByteArray.toList_eq]; rfl
theorem em_f {x : ByteArray} (h : x ≠ noStr) : x.toList.isEmpty = false := by
  cases hh : x.toList.isEmpty with
  | false => rfl
  | true =>
    exfalso
    apply h
    rw [ByteArray.toList_eq] at hh
    obtain ⟨⟨l⟩⟩ := x
    cases l with
    | nil => rfl
    | cons a l => cases hh
theorem textOf_none {i x : ByteArray} (h : x = noStr) : textOf i x = i := if_pos h
theorem textOf_some {i x : ByteArray} (h : x ≠ noStr) : textOf i x = i ++ withS ++ x := if_neg h

theorem text_any (v0 v3 : Value) (i x : ByteArray) (w : World) (hi : i.size ≤ 100) (hx : x.size ≤ 100) : Calls Ybaf.prog 14 #[.agg #[v0, .string i, .string x, v3]] w fun e w' => e = .returned (.string (textOf i x)) ∧ w' = w.alloc (.cells #[v0, .string i, .string x, v3] 31) := by
  have s1 : ¬ 9223372036854775807 < i.size + 6 := by omega
  have s2 : ¬ 9223372036854775807 < i.size + 6 + x.size := by omega
  by_cases h : x = noStr
  · rw [textOf_none h]
    have h1 := em_t h
    clear h
    go_enter Ybaf.func14, Ybaf.ntmps14
    go_wp2
    go_ret
    exact ⟨rfl, rfl⟩
  · rw [textOf_some h]
    have h1 := em_f h
    go_enter Ybaf.func14, Ybaf.ntmps14
    go_wp2
    go_ret
    exact ⟨rfl, rfl⟩

def bless (i x j y : ByteArray) : Bool := if i = j then Op.bytesLess (textOf i x).toList (textOf j y).toList else Op.bytesLess i.toList j.toList

theorem below2 (w : World) (a b : Obj) : Below w.heap.size w ((w.alloc a).alloc b) := ((Below.refl _ w).alloc (Nat.le_refl _) a).alloc (by simp) b

set_option maxHeartbeats 4000000 in
set_option maxRecDepth 100000 in
theorem less_any (v0 v3 u0 u3 : Value) (i x j y : ByteArray) (w : World) (hi : i.size ≤ 100) (hx : x.size ≤ 100) (hj : j.size ≤ 100) (hy : y.size ≤ 100) :
    Calls Ybaf.prog 15 #[.agg #[v0, .string i, .string x, v3], .agg #[u0, .string j, .string y, u3]] w fun e w' => e = .returned (.bool (bless i x j y)) ∧ Below w.heap.size w w' := by
  unfold bless
  by_cases h : i = j
  · subst h
    rw [if_pos rfl]
    have h1 := bb_eq (rfl : i = i)
    go_enter Ybaf.func15, Ybaf.ntmps15
    go_wp2
    go_region_with (go_at_call 14; refine (text_any _ _ _ _ _ (by assumption) (by assumption)).mono ?_; rintro e w' ⟨rfl, rfl⟩)
    all_goals go_wp2
    all_goals go_ret
    all_goals exact ⟨rfl, (((below2 _ _ _).alloc (by simp; omega) _).alloc (by simp; omega) _).drew⟩
  · have h1 := bb_ne h
    rw [if_neg h]
    go_enter Ybaf.func15, Ybaf.ntmps15
    go_wp2
    go_ret
    exact ⟨rfl, below2 _ _ _⟩

def isIdB (x : ByteArray) : Bool := x.toList.isEmpty
theorem isID_any (i x : ByteArray) (v3 : Value) (w : World) : Calls Ybaf.prog 26 #[.agg #[.int .i64 0, .string i, .string x, v3]] w fun e w' => e = .returned (.bool x.toList.isEmpty) ∧ w' = w.alloc (.cells #[.int .i64 0, .string i, .string x, v3] 31) := by
  go_enter Ybaf.func26, Ybaf.ntmps26
  go_wp2
  go_ret
  exact ⟨rfl, rfl⟩

set_option maxHeartbeats 4000000 in
set_option maxRecDepth 100000 in
theorem expr_any (s e : Value) (a b : Int) (c : Value) (w : World) (ha : 0 ≤ a ∧ a ≤ 255) (hb : 0 ≤ b ∧ b ≤ 255) :
    Calls Ybaf.prog 6 #[.agg #[s, e, .int .u8 a, .int .u8 b, c]] w fun r w' => r = .returned (.agg #[.int .i64 0, .string (idT a), .string (excT b), .slice none 0 0]) ∧ w' = ((w.alloc (.cells #[s, e, .int .u8 a, .int .u8 b, c] 27)).alloc (.cells #[.int .i64 0, .string (idT a), .string (excT b), .slice none 0 0] 31)).drew := by
  have h12 := fun W => id_any a W ha
  have h13 := fun W => exc_any b W hb
  go_enter Ybaf.func6, Ybaf.ntmps6
  go_wp2
  go_region_with (first | (go_at_call 12; refine (h12 _).mono ?_; rintro e w' ⟨rfl, rfl⟩) | (go_at_call 13; refine (h13 _).mono ?_; rintro e w' ⟨rfl, rfl⟩))
  all_goals go_wp2
  all_goals exact bodyPost_ret (res31 (p := 2) rfl _ _ (w.heap.size + 1) #[.int .i64 0, .string (idT a), .string (excT b), .slice none 0 0] rfl (blk_at (w := w.alloc _) (by simp)) rfl) rfl ⟨rfl, rfl⟩
end Go.Proofs.YbulkexpecFmt
