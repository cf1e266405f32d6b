/- The shelf's contracts at this dump, as the kit's tool wrote them (remarks struck). -/
import Derived.Shelf.Strings.Builder1
import Derived.Shelf.Small.Bits
import Derived.Shelf.Small.Strs
import Derived.Shelf.Strings.BuilderF
import Derived.Shelf.Strings.BuilderK
import Derived.Shelf.Strconv.Itoa0
import Derived.Test.YbulkexpecFmtProg
namespace Go.Proofs
open Go.Shelf
def Ybaf.lays169_ren : Go.Shelf.Ren := ⟨fun | 169 => 28 | n => n, fun | 70 => 58 | 9 => 9 | 0 => 0 | 72 => 61 | 37 => 59 | 127 => 74 | 3 => 3 | 5 => 5 | n => n, fun | n => n⟩
theorem Ybaf.lays169 : Go.Proofs.Lays.n169 Ybaf.prog Ybaf.lays169_ren := {
  mixed := by kernel_rfl
  f169 := Ybaf.func28.trans (congrArg some (by kernel_rfl))
  t0 := Ybaf.underlying0
  a0 := Ybaf.isAgg0
  z0 := Ybaf.sizeOf0
  v0 := Ybaf.zeroValue0
  t3 := Ybaf.underlying3
  a3 := Ybaf.isAgg3
  z3 := Ybaf.sizeOf3
  v3 := Ybaf.zeroValue3
  t9 := Ybaf.underlying9
  a9 := Ybaf.isAgg9
  z9 := Ybaf.sizeOf9
  v9 := Ybaf.zeroValue9
  t37 := Ybaf.underlying59
  a37 := Ybaf.isAgg59
  z37 := Ybaf.sizeOf59
  v37 := Ybaf.zeroValue59
  t70 := Ybaf.underlying58
  a70 := Ybaf.isAgg58
  z70 := Ybaf.sizeOf58
  v70 := Ybaf.zeroValue58
  t72 := Ybaf.underlying61
  a72 := Ybaf.isAgg61
  z72 := Ybaf.sizeOf61
  v72 := Ybaf.zeroValue61
  t127 := Ybaf.underlying74
  a127 := Ybaf.isAgg74
  z127 := Ybaf.sizeOf74
  v127 := Ybaf.zeroValue74 }
theorem Ybaf.Builder_Extra_169 : Builder.Extra Ybaf.prog Ybaf.lays169_ren := {
  sizeBuilder := by kernel_rfl
  liesBuilder := by kernel_rfl
  t5 := Ybaf.underlying5
  a5 := Ybaf.isAgg5
  z5 := Ybaf.sizeOf5
  v5 := Ybaf.zeroValue5
  infoByte := by kernel_rfl
  cellsByte := by kernel_rfl
  sizeByte := by kernel_rfl
  neB5 := by decide }
open Go.RowKit in
theorem Ybaf.Builder_String (B b : Nat) (l : List UInt8) (w : World) (h : Lib.IsBuilder 61 5 B b (Lib.byteCells l) w) (h0 : l ≠ []) :
    Calls Ybaf.prog 28 #[.pointer (some ⟨b, 0, none⟩)] w fun e w' => e = .returned (.string ⟨l.toArray⟩) ∧ Below B w w' := Any.Builder_String Ybaf.lays169 Ybaf.Builder_Extra_169 B b l w h h0
open Go.RowKit in
theorem Ybaf.Builder_String_empty (B b : Nat) (w : World) (h : Lib.IsBuilder 61 5 B b [] w) (hBw : B ≤ w.heap.size) :
    Calls Ybaf.prog 28 #[.pointer (some ⟨b, 0, none⟩)] w fun e w' => e = .returned (.string ⟨#[]⟩) ∧ Below B w w' := Any.Builder_String_empty Ybaf.lays169 Ybaf.Builder_Extra_169 B b w h hBw
open Go.RowKit in
theorem Ybaf.Builder_String_any (B b : Nat) (l : List UInt8) (w : World) (h : Lib.IsBuilder 61 5 B b (Lib.byteCells l) w) (hBw : B ≤ w.heap.size) :
    Calls Ybaf.prog 28 #[.pointer (some ⟨b, 0, none⟩)] w fun e w' => e = .returned (.string ⟨l.toArray⟩) ∧ Below B w w' := Any.Builder_String_any Ybaf.lays169 Ybaf.Builder_Extra_169 B b l w h hBw
def Ybaf.lays128_ren : Go.Shelf.Ren := ⟨fun | 128 => 49 | n => n, fun | 51 => 86 | 3 => 3 | 4 => 4 | 46 => 67 | 5 => 5 | 9 => 9 | n => n, fun | n => n⟩
theorem Ybaf.lays128 : Go.Proofs.Lays.n128 Ybaf.prog Ybaf.lays128_ren := {
  mixed := by kernel_rfl
  f128 := Ybaf.func49.trans (congrArg some (by kernel_rfl))
  t3 := Ybaf.underlying3
  a3 := Ybaf.isAgg3
  z3 := Ybaf.sizeOf3
  v3 := Ybaf.zeroValue3
  t4 := Ybaf.underlying4
  a4 := Ybaf.isAgg4
  z4 := Ybaf.sizeOf4
  v4 := Ybaf.zeroValue4
  t5 := Ybaf.underlying5
  a5 := Ybaf.isAgg5
  z5 := Ybaf.sizeOf5
  v5 := Ybaf.zeroValue5
  t9 := Ybaf.underlying9
  a9 := Ybaf.isAgg9
  z9 := Ybaf.sizeOf9
  v9 := Ybaf.zeroValue9
  t46 := Ybaf.underlying67
  a46 := Ybaf.isAgg67
  z46 := Ybaf.sizeOf67
  v46 := Ybaf.zeroValue67
  t51 := Ybaf.underlying86
  a51 := Ybaf.isAgg86
  z51 := Ybaf.sizeOf86
  v51 := Ybaf.zeroValue86 }
theorem Ybaf.bits_Len32 (x : Int) (w : World) (h0 : 0 ≤ x) (h1 : x ≤ 4294967295) :
    Calls Ybaf.prog 49 #[.int .u32 x] w fun e w' => e = .returned (.int .i64 (Lib.bitLen x.toNat)) ∧ w' = w := Any.bits_Len32 Ybaf.lays128 x w h0 h1
def Ybaf.lays125_ren : Go.Shelf.Ren := ⟨fun | 125 => 32 | 128 => 49 | 129 => 50 | n => n, fun | 46 => 67 | 3 => 3 | 51 => 86 | 53 => 88 | 4 => 4 | 5 => 5 | 9 => 9 | n => n, fun | n => n⟩
theorem Ybaf.lays125 : Go.Proofs.Lays.n125 Ybaf.prog Ybaf.lays125_ren := {
  mixed := by kernel_rfl
  f125 := Ybaf.func32.trans (congrArg some (by kernel_rfl))
  f128 := Ybaf.func49.trans (congrArg some (by kernel_rfl))
  f129 := Ybaf.func50.trans (congrArg some (by kernel_rfl))
  t3 := Ybaf.underlying3
  a3 := Ybaf.isAgg3
  z3 := Ybaf.sizeOf3
  v3 := Ybaf.zeroValue3
  t4 := Ybaf.underlying4
  a4 := Ybaf.isAgg4
  z4 := Ybaf.sizeOf4
  v4 := Ybaf.zeroValue4
  t5 := Ybaf.underlying5
  a5 := Ybaf.isAgg5
  z5 := Ybaf.sizeOf5
  v5 := Ybaf.zeroValue5
  t9 := Ybaf.underlying9
  a9 := Ybaf.isAgg9
  z9 := Ybaf.sizeOf9
  v9 := Ybaf.zeroValue9
  t46 := Ybaf.underlying67
  a46 := Ybaf.isAgg67
  z46 := Ybaf.sizeOf67
  v46 := Ybaf.zeroValue67
  t51 := Ybaf.underlying86
  a51 := Ybaf.isAgg86
  z51 := Ybaf.sizeOf86
  v51 := Ybaf.zeroValue86
  t53 := Ybaf.underlying88
  a53 := Ybaf.isAgg88
  z53 := Ybaf.sizeOf88
  v53 := Ybaf.zeroValue88 }
theorem Ybaf.bits_Len (x : Int) (w : World) (h0 : 0 ≤ x) (h1 : x ≤ 18446744073709551615) :
    Calls Ybaf.prog 32 #[.int .u64 x] w fun e w' => e = .returned (.int .i64 (Lib.bitLen x.toNat)) ∧ w' = w := Any.bits_Len Ybaf.lays125 x w h0 h1
def Ybaf.lays213_ren : Go.Shelf.Ren := ⟨fun | 213 => 34 | 265 => 52 | n => n, fun | 9 => 9 | 3 => 3 | n => n, fun | n => n⟩
theorem Ybaf.lays213 : Go.Proofs.Lays.n213 Ybaf.prog Ybaf.lays213_ren := {
  mixed := by kernel_rfl
  f213 := Ybaf.func34.trans (congrArg some (by kernel_rfl))
  f265 := Ybaf.func52.trans (congrArg some (by kernel_rfl))
  t3 := Ybaf.underlying3
  a3 := Ybaf.isAgg3
  z3 := Ybaf.sizeOf3
  v3 := Ybaf.zeroValue3
  t9 := Ybaf.underlying9
  a9 := Ybaf.isAgg9
  z9 := Ybaf.sizeOf9
  v9 := Ybaf.zeroValue9 }
open Go.RowKit in
theorem Ybaf.bytealg_CompareString (a b : ByteArray) (w : World) :
    Calls Ybaf.prog 34 #[.string a, .string b] w fun e w' => e = .returned (.int .i64 (Lib.compareBytes a.data.toList b.data.toList)) ∧ w' = w := Any.bytealg_CompareString Ybaf.lays213 a b w
def Ybaf.lays106_ren : Go.Shelf.Ren := ⟨fun | 106 => 25 | 213 => 34 | 265 => 52 | n => n, fun | 9 => 9 | 3 => 3 | n => n, fun | n => n⟩
theorem Ybaf.lays106 : Go.Proofs.Lays.n106 Ybaf.prog Ybaf.lays106_ren := {
  mixed := by kernel_rfl
  f106 := Ybaf.func25.trans (congrArg some (by kernel_rfl))
  f213 := Ybaf.func34.trans (congrArg some (by kernel_rfl))
  f265 := Ybaf.func52.trans (congrArg some (by kernel_rfl))
  t3 := Ybaf.underlying3
  a3 := Ybaf.isAgg3
  z3 := Ybaf.sizeOf3
  v3 := Ybaf.zeroValue3
  t9 := Ybaf.underlying9
  a9 := Ybaf.isAgg9
  z9 := Ybaf.sizeOf9
  v9 := Ybaf.zeroValue9 }
open Go.RowKit in
theorem Ybaf.strings_Compare (a b : ByteArray) (w : World) :
    Calls Ybaf.prog 25 #[.string a, .string b] w fun e w' => e = .returned (.int .i64 (Lib.compareBytes a.data.toList b.data.toList)) ∧ w' = w := Any.strings_Compare Ybaf.lays106 a b w
open Go.RowKit in
theorem Ybaf.Builder_String_f (B b : Nat) (l : List UInt8) (w : World) (h : Lib.IsBuilderF 61 5 B b (Lib.byteCells l) w) (h0 : l ≠ []) :
    Calls Ybaf.prog 28 #[.pointer (some ⟨b, 0, none⟩)] w fun e w' => e = .returned (.string ⟨l.toArray⟩) ∧ (Lib.IsBuilderF 61 5 B b (Lib.byteCells l) w' ∧ Below B w w') := Any.Builder_String_f Ybaf.lays169 Ybaf.Builder_Extra_169 B b l w h h0
open Go.RowKit in
theorem Ybaf.Builder_String_empty_f (B b : Nat) (w : World) (h : Lib.IsBuilderF 61 5 B b [] w) (hBw : B ≤ w.heap.size) :
    Calls Ybaf.prog 28 #[.pointer (some ⟨b, 0, none⟩)] w fun e w' => e = .returned (.string ⟨#[]⟩) ∧ (Lib.IsBuilderF 61 5 B b [] w' ∧ Below B w w') := Any.Builder_String_empty_f Ybaf.lays169 Ybaf.Builder_Extra_169 B b w h hBw
open Go.RowKit in
theorem Ybaf.Builder_String_any_f (B b : Nat) (l : List UInt8) (w : World) (h : Lib.IsBuilderF 61 5 B b (Lib.byteCells l) w) (hBw : B ≤ w.heap.size) :
    Calls Ybaf.prog 28 #[.pointer (some ⟨b, 0, none⟩)] w fun e w' => e = .returned (.string ⟨l.toArray⟩) ∧ (Lib.IsBuilderF 61 5 B b (Lib.byteCells l) w' ∧ Below B w w') := Any.Builder_String_any_f Ybaf.lays169 Ybaf.Builder_Extra_169 B b l w h hBw
open Go.RowKit in
theorem Ybaf.Builder_String_k (B b : Nat) (l : List UInt8) (w : World) (h : Lib.IsBuilderF 61 5 B b (Lib.byteCells l) w) (h0 : l ≠ []) :
    Calls Ybaf.prog 28 #[.pointer (some ⟨b, 0, none⟩)] w fun e w' => e = .returned (.string ⟨l.toArray⟩) ∧ (Lib.IsBuilderF 61 5 B b (Lib.byteCells l) w' ∧ Below B w w' ∧ Lib.OthersKept 5 (some b) w w') := Any.Builder_String_k Ybaf.lays169 Ybaf.Builder_Extra_169 B b l w h h0
open Go.RowKit in
theorem Ybaf.Builder_String_empty_k (B b : Nat) (w : World) (h : Lib.IsBuilderF 61 5 B b [] w) (hBw : B ≤ w.heap.size) :
    Calls Ybaf.prog 28 #[.pointer (some ⟨b, 0, none⟩)] w fun e w' => e = .returned (.string ⟨#[]⟩) ∧ (Lib.IsBuilderF 61 5 B b [] w' ∧ Below B w w' ∧ Lib.OthersKept 5 (some b) w w') := Any.Builder_String_empty_k Ybaf.lays169 Ybaf.Builder_Extra_169 B b w h hBw
open Go.RowKit in
theorem Ybaf.Builder_String_any_k (B b : Nat) (l : List UInt8) (w : World) (h : Lib.IsBuilderF 61 5 B b (Lib.byteCells l) w) (hBw : B ≤ w.heap.size) :
    Calls Ybaf.prog 28 #[.pointer (some ⟨b, 0, none⟩)] w fun e w' => e = .returned (.string ⟨l.toArray⟩) ∧ (Lib.IsBuilderF 61 5 B b (Lib.byteCells l) w' ∧ Below B w w' ∧ Lib.OthersKept 5 (some b) w w') := Any.Builder_String_any_k Ybaf.lays169 Ybaf.Builder_Extra_169 B b l w h hBw
def Ybaf.lays129_ren : Go.Shelf.Ren := ⟨fun | 129 => 50 | n => n, fun | 53 => 88 | 3 => 3 | 4 => 4 | 46 => 67 | 5 => 5 | 9 => 9 | n => n, fun | n => n⟩
theorem Ybaf.lays129 : Go.Proofs.Lays.n129 Ybaf.prog Ybaf.lays129_ren := {
  mixed := by kernel_rfl
  f129 := Ybaf.func50.trans (congrArg some (by kernel_rfl))
  t3 := Ybaf.underlying3
  a3 := Ybaf.isAgg3
  z3 := Ybaf.sizeOf3
  v3 := Ybaf.zeroValue3
  t4 := Ybaf.underlying4
  a4 := Ybaf.isAgg4
  z4 := Ybaf.sizeOf4
  v4 := Ybaf.zeroValue4
  t5 := Ybaf.underlying5
  a5 := Ybaf.isAgg5
  z5 := Ybaf.sizeOf5
  v5 := Ybaf.zeroValue5
  t9 := Ybaf.underlying9
  a9 := Ybaf.isAgg9
  z9 := Ybaf.sizeOf9
  v9 := Ybaf.zeroValue9
  t46 := Ybaf.underlying67
  a46 := Ybaf.isAgg67
  z46 := Ybaf.sizeOf67
  v46 := Ybaf.zeroValue67
  t53 := Ybaf.underlying88
  a53 := Ybaf.isAgg88
  z53 := Ybaf.sizeOf88
  v53 := Ybaf.zeroValue88 }
theorem Ybaf.bits_Len64 (x : Int) (w : World) (h0 : 0 ≤ x) (h1 : x ≤ 18446744073709551615) :
    Calls Ybaf.prog 50 #[.int .u64 x] w fun e w' => e = .returned (.int .i64 (Lib.bitLen x.toNat)) ∧ w' = w := Any.bits_Len64 Ybaf.lays129 x w h0 h1
end Go.Proofs
