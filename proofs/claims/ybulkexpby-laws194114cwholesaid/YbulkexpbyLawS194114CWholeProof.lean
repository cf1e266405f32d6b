/- LawS194114CWholeSaid: the frame after the kit's shell for laws. -/
import Derived.Test.YbulkexpbyLawC
import Derived.Deep.SlicePairs
import Derived.WalkKit
import Derived.ProofKit
import Derived.OpenShut
import Derived.ShutString
import Derived.ChangeOld
import Derived.Below
import Derived.SliceStrings
import Derived.SizedLaws
namespace Go.Proofs.Ybulkexpby.lawS194114CWhole
open Go.ChangeShapes Go.WideShapes Go.ChangeAt Go.RowKit
open Go.ChangeMaps (open_string shut_string)
set_option linter.unusedVariables false

theorem own : ownKnob Yba.prog.godebug = none := by kernel_rfl
theorem laidOut : laidOutB Yba.prog = true := by kernel_rfl

theorem cell_lt {w : World} {b o : Nat} {v : Value} (h : w.cell? ⟨b, o, none⟩ = some v) : b < w.heap.size := by
  unfold World.cell? at h
  cases hb : w.heap[b]? with
  | none => rw [hb] at h; cases h
  | some x => exact (Array.getElem?_eq_some_iff.1 hb).1

/-- A slice of strings that came in: its elements' cells. -/
def IsStrs (w : World) (a : Option Addr) (len : Nat) (s : Nat → ByteArray) : Prop :=
  ∀ k, k < len → ∃ b o, a = some ⟨b, o, none⟩ ∧ b < w.heap.size ∧ w.cell? ⟨b, o + k, none⟩ = some (.string (s k))

theorem isStrs_of {w : World} {x : Addr} {len : Nat} {ss : List ByteArray} (hl : len ≤ ss.length) (h : ∀ i, i < ss.length → w.cell? (x.add i) = some (.string (ss.getD i ByteArray.empty))) : IsStrs w (some x) len (fun k => ss.getD k ByteArray.empty) := by
  intro k hk
  have h0 := h k (by omega)
  obtain ⟨b, off, spot⟩ := x
  have hspot : spot = none := by simpa [Addr.add] using World.cell?_spot (h 0 (by omega))
  subst hspot
  rw [Go.WideShapes.add_plain] at h0
  exact ⟨b, off, rfl, cell_lt h0, h0⟩

theorem bytes9 : Yba.prog.bytesOf 9 = 16 := by kernel_rfl
theorem bytes69 : Yba.prog.bytesOf 69 = 24 := by kernel_rfl
def strV : Value → ByteArray
  | .string s => s
  | _ => ByteArray.empty
def intV : Value → Int
  | .int _ n => n
  | _ => 0

theorem strs_trod {H : Type} {enc : TypeId × Value → H} {w : World} {base : Nat} {spare : Nat → Bool} {held : Bool} {fuel : Nat} {a : Option Addr} {n cap : Nat} {x : DataW H × List MemPlace}
    (hf : DataW.trod enc Yba.prog w base spare held fuel 39 [.slice a n cap] = some x) (hw : ∀ q ∈ x.1.weights Yba.prog 39, q ≤ reachBytes) : n ≤ 140737488355328 ∧ n ≤ maxLen ∧ ∃ s, IsStrs w a n s := by
  rcases open_strings Yba.underlying39 Yba.underlying9 (by kernel_rfl) hf with ⟨hcs, _⟩ | ⟨x', l, c, ss, hcs, _, hl, hm, hz, hx, hcell, _⟩
  · simp at hcs
    obtain ⟨rfl, rfl, rfl⟩ := hcs
    exact ⟨by omega, by simp [maxLen], fun _ => ByteArray.empty, fun k hk => absurd hk (by omega)⟩
  · simp at hcs
    obtain ⟨rfl, rfl, rfl⟩ := hcs
    have hls : n ≤ ss.length := by rw [hz]; split <;> omega
    have hb := hw (((strs (ss.take n) : List (DataW H)).length + (strs (ss.drop n) : List (DataW H)).length) * Yba.prog.bytesOf 9) (by rw [hx]; simp [DataW.weights, Yba.underlying39])
    rw [bytes9] at hb
    simp [strs] at hb
    unfold reachBytes at hb
    exact ⟨by omega, by omega, _, isStrs_of hls hcell⟩

theorem pre_trod {H : Type} {enc : TypeId × Value → H} {w : World} {base : Nat} {spare : Nat → Bool} {held : Bool} {fuel : Nat} {a : Option Addr} {n cap : Nat} {x : DataW H × List MemPlace}
    (hf : DataW.trod enc Yba.prog w base spare held fuel 59 [.slice a n cap] = some x) (hw : ∀ q ∈ x.1.weights Yba.prog 59, q ≤ reachBytes) : n ≤ 140737488355328 ∧ n ≤ maxLen ∧ ∃ N Af, PreC w a n N Af := by
  rcases Go.Deep.open_slice_pairs Yba.underlying59 Yba.underlying69 (by kernel_rfl) rfl rfl (by kernel_rfl) (by kernel_rfl) hf with ⟨hcs, _⟩ | ⟨x', l, c, m, k, V0, V1, D0, D1, P0, P1, hcs, _, hl, hm, hmm, hx, hel⟩
  · simp at hcs
    obtain ⟨rfl, rfl, rfl⟩ := hcs
    exact ⟨by omega, by simp [maxLen], fun _ => ByteArray.empty, fun _ => 0, fun k hk => absurd hk (by omega)⟩
  · simp at hcs
    obtain ⟨rfl, rfl, rfl⟩ := hcs
    have hnm : n ≤ m := by rw [hmm]; split <;> omega
    have hb := hw ((((List.range n).map fun i => (DataW.agg [D0 i, D1 i] : DataW H)).length + ((List.range (m - n)).map fun j => (DataW.agg [D0 (n + j), D1 (n + j)] : DataW H)).length) * Yba.prog.bytesOf 69) (by rw [hx]; simp [DataW.weights, Yba.underlying59])
    rw [bytes69] at hb
    simp at hb
    unfold reachBytes at hb
    refine ⟨by omega, by omega, fun i => strV (V0 i), fun i => intV (V1 i), fun i hi => ?_⟩
    obtain ⟨e0, e1, t0, t1⟩ := hel i (by omega)
    obtain ⟨s, hs, _⟩ := DataW.trod_string Yba.underlying9 t0
    obtain ⟨z, hz, _⟩ := DataW.trod_int Yba.underlying3 t1
    simp at hs hz
    obtain ⟨b, off, spot⟩ := x'
    have hspot : spot = none := by
      have := (hel 0 (by omega)).1
      simpa [Addr.add] using World.cell?_spot this
    subst hspot
    rw [add_plain] at e0 e1
    refine ⟨b, off, rfl, cell_lt e0, ?_, ?_⟩
    · simp only [e0, hs, strV]
    · rw [show off + i * 2 + 1 = off + (i * 2 + 1) by omega, e1]
      simp only [hz, intV]

theorem walk (a0 a2 a3 a4 : Option Addr) (n0 c0 n2 c2 n3 c3 n4 c4 : Nat) (lk by_ : Int) (odd : Bool) (N fs ks vs : Nat → ByteArray) (Af : Nat → Int) (w : World) (hlk : 0 ≤ lk ∧ lk ≤ 255)
    (b0 : n0 ≤ 140737488355328 ∧ n0 ≤ maxLen) (b2 : n2 ≤ 140737488355328 ∧ n2 ≤ maxLen) (b3 : n3 ≤ 140737488355328 ∧ n3 ≤ maxLen) (b4 : n4 ≤ 140737488355328 ∧ n4 ≤ maxLen)
    (hpre : PreC w a0 n0 N Af) (hfs : IsStrs w a2 n2 fs) (hks : IsStrs w a3 n3 ks) (hvs : IsStrs w a4 n4 vs) :
    Calls Yba.prog 5 #[.slice a0 n0 c0, .int .u8 lk, .slice a2 n2 c2, .slice a3 n3 c3, .slice a4 n4 c4, .bool odd, .int .i64 by_] w fun e w' => e = .returned (.bool true) ∧ Below w.heap.size w w' := by
  by_cases hb : 4096 < n0 + n2 + n3 + n4
  · exact lawC_big a0 a2 a3 a4 n0 c0 n2 c2 n3 c3 n4 c4 lk by_ odd w hb b0.2 b2.2 b3.2 b4.2 (by omega)
  · exact lawC_small a0 a2 a3 a4 n0 c0 n2 c2 n3 c3 n4 c4 lk by_ odd N fs ks vs Af w (by omega) hlk hpre ⟨_, _, rfl, by omega, hfs⟩ ⟨_, _, rfl, by omega, hks⟩ ⟨_, _, rfl, by omega, hvs⟩

set_option maxRecDepth 100000 in
theorem lifted (os : Os) (started : os.Started) (H : Type) (enc : TypeId × Value → H) :
    ReturnsInHanded {} Yba.checked os 5 .any (Rows.lawS194114CWholeSpec.pre6 enc Yba.prog Yba.f5 Rows.lawS194114CWholeRow.domain false) (Rows.lawS194114CWholeSpec.post enc Yba.prog Yba.f5 false true false false) := by
  refine returnsInHanded_of_change_sized (C := Yba.checked) own started (by kernel_rfl) Yba.func5
    (ChangeSpec.witness6 (enc := enc) (C := Yba.checked) false ⟨#[], #[.slice none 0 0, .int .u8 0, .slice none 0 0, .slice none 0 0, .slice none 0 0, .bool false, .int .i64 0], []⟩ 8 (by kernel_rfl) (by kernel_rfl) (by kernel_rfl) (by kernel_rfl)) ?_
  intro W base args ds gs before hval0 hW hcnd hsz0 _
  have hval : ∀ (j : Nat) t v, Yba.f5.params[j]? = some t → args[j]? = some v → Value.okWide Yba.prog W .any base t v := hval0
  have hW' := hW
  obtain ⟨p, q, hA0, hV, rfl, hfz, hnd⟩ := hW
  have hA : DataW.TrodAll enc Yba.prog W 0 (fun _ => true) true Yba.f5.params.toList args.toList ds p := hA0
  have hsz : (DataW.weightsEach Yba.prog (Yba.f5.params.toList ++ Rows.lawS194114CWholeSpec.plain.varTypes Yba.prog) (ds ++ gs)).all (· ≤ reachBytes) = true := hsz0
  rw [Yba.params5] at hA hval hsz
  obtain ⟨v0, vs0, d0, ds0, p0, q0, hargs, rfl, rfl, h0, r0⟩ := trodAll_cons hA
  obtain ⟨v1, vs1, d1, ds1, p1, q1, rfl, rfl, rfl, h1, r1⟩ := trodAll_cons r0
  obtain ⟨v2, vs2, d2, ds2, p2, q2, rfl, rfl, rfl, h2, r2⟩ := trodAll_cons r1
  obtain ⟨v3, vs3, d3, ds3, p3, q3, rfl, rfl, rfl, h3, r3⟩ := trodAll_cons r2
  obtain ⟨v4, vs4, d4, ds4, p4, q4, rfl, rfl, rfl, h4, r4⟩ := trodAll_cons r3
  obtain ⟨v5, vs5, d5, ds5, p5, q5, rfl, rfl, rfl, h5, r5⟩ := trodAll_cons r4
  obtain ⟨v6, vs6, d6, ds6, p6, q6, rfl, rfl, rfl, h6, r6⟩ := trodAll_cons r5
  obtain ⟨rfl, rfl, rfl⟩ := trodAll_nil r6
  obtain rfl : args = #[v0, v1, v2, v3, v4, v5, v6] := by cases args; simp_all
  obtain ⟨rfl, rfl⟩ := trodVars_none hV
  have k0 := h0
  have lt0 : ∀ x ∈ p0, x.block < W.heap.size := by obtain ⟨m, hm⟩ := k0; exact DataW.trod_lt m _ _ _ hm
  obtain ⟨a0, len0, cap0, rfl⟩ := okWide_slice Yba.underlying59 (hval 0 59 v0 rfl rfl)
  have k1 := h1
  have lt1 : ∀ x ∈ p1, x.block < W.heap.size := by obtain ⟨m, hm⟩ := k1; exact DataW.trod_lt m _ _ _ hm
  obtain ⟨x1, rfl, rfl, rfl, wx1⟩ := open_int Yba.underlying5 (hval 1 5 v1 rfl rfl) h1
  have k2 := h2
  have lt2 : ∀ x ∈ p2, x.block < W.heap.size := by obtain ⟨m, hm⟩ := k2; exact DataW.trod_lt m _ _ _ hm
  obtain ⟨a2, len2, cap2, rfl⟩ := okWide_slice Yba.underlying39 (hval 2 39 v2 rfl rfl)
  have k3 := h3
  have lt3 : ∀ x ∈ p3, x.block < W.heap.size := by obtain ⟨m, hm⟩ := k3; exact DataW.trod_lt m _ _ _ hm
  obtain ⟨a3, len3, cap3, rfl⟩ := okWide_slice Yba.underlying39 (hval 3 39 v3 rfl rfl)
  have k4 := h4
  have lt4 : ∀ x ∈ p4, x.block < W.heap.size := by obtain ⟨m, hm⟩ := k4; exact DataW.trod_lt m _ _ _ hm
  obtain ⟨a4, len4, cap4, rfl⟩ := okWide_slice Yba.underlying39 (hval 4 39 v4 rfl rfl)
  have k5 := h5
  have lt5 : ∀ x ∈ p5, x.block < W.heap.size := by obtain ⟨m, hm⟩ := k5; exact DataW.trod_lt m _ _ _ hm
  obtain ⟨x5, rfl, rfl, rfl⟩ := open_bool Yba.underlying4 (hval 5 4 v5 rfl rfl) h5
  have k6 := h6
  have lt6 : ∀ x ∈ p6, x.block < W.heap.size := by obtain ⟨m, hm⟩ := k6; exact DataW.trod_lt m _ _ _ hm
  obtain ⟨x6, rfl, rfl, rfl, wx6⟩ := open_int Yba.underlying3 (hval 6 3 v6 rfl rfl) h6
  have hwt0 : ∀ n ∈ d0.weights Yba.prog 59, n ≤ reachBytes := fun n hn => by
    have := List.all_eq_true.1 hsz n (DataW.weights_mem_each (j := 0) rfl rfl n hn)
    simpa using this
  have hwt2 : ∀ n ∈ d2.weights Yba.prog 39, n ≤ reachBytes := fun n hn => by
    have := List.all_eq_true.1 hsz n (DataW.weights_mem_each (j := 2) rfl rfl n hn)
    simpa using this
  have hwt3 : ∀ n ∈ d3.weights Yba.prog 39, n ≤ reachBytes := fun n hn => by
    have := List.all_eq_true.1 hsz n (DataW.weights_mem_each (j := 3) rfl rfl n hn)
    simpa using this
  have hwt4 : ∀ n ∈ d4.weights Yba.prog 39, n ≤ reachBytes := fun n hn => by
    have := List.all_eq_true.1 hsz n (DataW.weights_mem_each (j := 4) rfl rfl n hn)
    simpa using this
  obtain ⟨l0, m0, N, Af, hpre⟩ : len0 ≤ 140737488355328 ∧ len0 ≤ maxLen ∧ ∃ N Af, PreC W a0 len0 N Af := by
    obtain ⟨fuel, hf⟩ := h0
    exact pre_trod hf hwt0
  obtain ⟨l2, m2, fs, hfs⟩ : len2 ≤ 140737488355328 ∧ len2 ≤ maxLen ∧ ∃ s, IsStrs W a2 len2 s := by
    obtain ⟨fuel, hf⟩ := h2
    exact strs_trod hf hwt2
  obtain ⟨l3, m3, ks, hks⟩ : len3 ≤ 140737488355328 ∧ len3 ≤ maxLen ∧ ∃ s, IsStrs W a3 len3 s := by
    obtain ⟨fuel, hf⟩ := h3
    exact strs_trod hf hwt3
  obtain ⟨l4, m4, vs, hvs⟩ : len4 ≤ 140737488355328 ∧ len4 ≤ maxLen ∧ ∃ s, IsStrs W a4 len4 s := by
    obtain ⟨fuel, hf⟩ := h4
    exact strs_trod hf hwt4
  clear hA0 hval0
  refine (walk a0 a2 a3 a4 len0 cap0 len2 cap2 len3 cap3 len4 cap4 x1 x6 x5 N fs ks vs Af W (bounds_u8 wx1) ⟨l0, m0⟩ ⟨l2, m2⟩ ⟨l3, m3⟩ ⟨l4, m4⟩ hpre hfs hks hvs).mono fun e W' ⟨he, bel⟩ => ?_
  subst he
  exact ⟨_, rfl, _, _, _, [], _, [], hW', trodAll_mk1 (shut_bool Yba.underlying4 _), (trodAll_cons_mk (Below.trod laidOut (by kernel_rfl) (of_decide_eq_true (by kernel_rfl)) k0 bel lt0) (trodAll_cons_mk (Below.trod laidOut (by kernel_rfl) (of_decide_eq_true (by kernel_rfl)) k1 bel lt1) (trodAll_cons_mk (Below.trod laidOut (by kernel_rfl) (of_decide_eq_true (by kernel_rfl)) k2 bel lt2) (trodAll_cons_mk (Below.trod laidOut (by kernel_rfl) (of_decide_eq_true (by kernel_rfl)) k3 bel lt3) (trodAll_cons_mk (Below.trod laidOut (by kernel_rfl) (of_decide_eq_true (by kernel_rfl)) k4 bel lt4) (trodAll_cons_mk (Below.trod laidOut (by kernel_rfl) (of_decide_eq_true (by kernel_rfl)) k5 bel lt5) (trodAll_cons_mk (Below.trod laidOut (by kernel_rfl) (of_decide_eq_true (by kernel_rfl)) k6 bel lt6) trodAll_mk0))))))), rfl, bel.frame _, fun h => by cases h⟩

theorem over : Rows.lawS194114CWholeRow.holds Yba.pinned (OpenSpec.ofChange Rows.lawS194114CWholeSpec) :=
  OpenClaim.holds_of_wide 5 Yba.f5 rfl rfl rfl rfl rfl rfl rfl ⟨rfl, rfl, rfl, rfl, rfl⟩ rfl rfl rfl rfl rfl (by kernel_rfl) Yba.func5 (by kernel_rfl)
    (of_decide_eq_true (by kernel_rfl)) (by unfold Func.isWrapper; first | (rw [if_pos (by decide +kernel)]; kernel_rfl) | (rw [if_neg (by decide +kernel)]; exact ⟨rfl, rfl⟩))
    (fun os started H enc _ => lifted os started H enc)

theorem proved : Rows.LawS194114CWholeSaid := over
end Go.Proofs.Ybulkexpby.lawS194114CWhole
