/- LawS194114BWholeSaid: the frame after the kit's shell for laws. -/
import Derived.Test.YbulkexpbyLawB
import Derived.WalkKit
import Derived.ProofKit
import Derived.OpenShut
import Derived.ShutString
import Derived.ChangeOld
import Derived.Below
import Derived.SliceStrings
import Derived.SizedLaws
namespace Go.Proofs.Ybulkexpby.lawS194114BWhole
open Go.ChangeShapes Go.WideShapes Go.ChangeAt Go.RowKit
open Go.ChangeMaps (open_string shut_string)
set_option linter.unusedVariables false

theorem own : ownKnob Yba.prog.godebug = none := by kernel_rfl
theorem laidOut : laidOutB Yba.prog = true := by kernel_rfl

theorem cell_lt {w : World} {b o : Nat} {v : Value} (h : w.cell? ⟨b, o, none⟩ = some v) : b < w.heap.size := by
  unfold World.cell? at h
  cases hb : w.heap[b]? with
  | none => rw [hb] at h; cases h
  | some x => exact (Array.getElem?_eq_some_iff.1 hb).1

/-- A slice of strings that came in: its elements' cells. -/
def IsStrs (w : World) (a : Option Addr) (len : Nat) (s : Nat → ByteArray) : Prop :=
  len ≤ maxLen ∧ ∀ k, k < len → ∃ b o, a = some ⟨b, o, none⟩ ∧ b < w.heap.size ∧ w.cell? ⟨b, o + k, none⟩ = some (.string (s k))

theorem isStrs_of {w : World} {x : Addr} {len : Nat} {ss : List ByteArray} (hm : len ≤ maxLen) (hl : len ≤ ss.length) (h : ∀ i, i < ss.length → w.cell? (x.add i) = some (.string (ss.getD i ByteArray.empty))) : IsStrs w (some x) len (fun k => ss.getD k ByteArray.empty) := by
  refine ⟨hm, fun k hk => ?_⟩
  have h0 := h k (by omega)
  obtain ⟨b, off, spot⟩ := x
  have hspot : spot = none := by simpa [Addr.add] using World.cell?_spot (h 0 (by omega))
  subst hspot
  rw [Go.WideShapes.add_plain] at h0
  exact ⟨b, off, rfl, cell_lt h0, h0⟩

theorem walk (wi wp : Bool) (a0 : Option Addr) (n cap0 : Nat) (cl : Int) (s : Nat → ByteArray) (w : World) (hs : IsStrs w a0 n s) (hcl : 0 ≤ cl ∧ cl ≤ 255) :
    Calls Yba.prog 4 #[.bool wi, .bool wp, .slice a0 n cap0, .int .u8 cl] w fun e w' => e = .returned (.bool true) ∧ Below w.heap.size w w' := by
  by_cases hb : 1048576 < n
  · exact lawB_big wi wp a0 n cap0 cl w hb hs.1
  · have h1 : n ≤ 1048576 := by omega
    cases wi <;> cases wp
    · exact lawB_ff a0 n cap0 cl w h1
    · exact lawB_ft a0 n cap0 cl s w h1 hcl.1 hcl.2 hs.2
    · exact lawB_tf a0 n cap0 cl w h1
    · exact lawB_tt a0 n cap0 cl s w h1 hcl.1 hcl.2 hs.2

set_option maxRecDepth 100000 in
theorem lifted (os : Os) (started : os.Started) (H : Type) (enc : TypeId × Value → H) :
    ReturnsInHanded {} Yba.checked os 4 .any (Rows.lawS194114BWholeSpec.pre6 enc Yba.prog Yba.f4 Rows.lawS194114BWholeRow.domain false) (Rows.lawS194114BWholeSpec.post enc Yba.prog Yba.f4 false true false false) := by
  refine returnsInHanded_of_change (C := Yba.checked) own started (by kernel_rfl) Yba.func4
    (ChangeSpec.witness6 (enc := enc) (C := Yba.checked) false ⟨#[], #[.bool false, .bool false, .slice none 0 0, .int .u8 0], []⟩ 8 (by kernel_rfl) (by kernel_rfl) (by kernel_rfl) (by kernel_rfl)) ?_
  intro W base args ds gs before hval0 hW hcnd _
  have hval : ∀ (j : Nat) t v, Yba.f4.params[j]? = some t → args[j]? = some v → Value.okWide Yba.prog W .any base t v := hval0
  have hW' := hW
  obtain ⟨p, q, hA0, hV, rfl, hfz, hnd⟩ := hW
  have hA : DataW.TrodAll enc Yba.prog W 0 (fun _ => true) true Yba.f4.params.toList args.toList ds p := hA0
  rw [Yba.params4] at hA hval
  obtain ⟨v0, vs0, d0, ds0, p0, q0, hargs, rfl, rfl, h0, r0⟩ := trodAll_cons hA
  obtain ⟨v1, vs1, d1, ds1, p1, q1, rfl, rfl, rfl, h1, r1⟩ := trodAll_cons r0
  obtain ⟨v2, vs2, d2, ds2, p2, q2, rfl, rfl, rfl, h2, r2⟩ := trodAll_cons r1
  obtain ⟨v3, vs3, d3, ds3, p3, q3, rfl, rfl, rfl, h3, r3⟩ := trodAll_cons r2
  obtain ⟨rfl, rfl, rfl⟩ := trodAll_nil r3
  obtain rfl : args = #[v0, v1, v2, v3] := by cases args; simp_all
  obtain ⟨rfl, rfl⟩ := trodVars_none hV
  have k0 := h0
  have lt0 : ∀ x ∈ p0, x.block < W.heap.size := by obtain ⟨m, hm⟩ := k0; exact DataW.trod_lt m _ _ _ hm
  obtain ⟨x0, rfl, rfl, rfl⟩ := open_bool Yba.underlying4 (hval 0 4 v0 rfl rfl) h0
  have k1 := h1
  have lt1 : ∀ x ∈ p1, x.block < W.heap.size := by obtain ⟨m, hm⟩ := k1; exact DataW.trod_lt m _ _ _ hm
  obtain ⟨x1, rfl, rfl, rfl⟩ := open_bool Yba.underlying4 (hval 1 4 v1 rfl rfl) h1
  have k2 := h2
  have lt2 : ∀ x ∈ p2, x.block < W.heap.size := by obtain ⟨m, hm⟩ := k2; exact DataW.trod_lt m _ _ _ hm
  obtain ⟨a2, len2, cap2, rfl⟩ := okWide_slice Yba.underlying39 (hval 2 39 v2 rfl rfl)
  have k3 := h3
  have lt3 : ∀ x ∈ p3, x.block < W.heap.size := by obtain ⟨m, hm⟩ := k3; exact DataW.trod_lt m _ _ _ hm
  obtain ⟨x3, rfl, rfl, rfl, wx3⟩ := open_int Yba.underlying5 (hval 3 5 v3 rfl rfl) h3
  obtain ⟨ss, hss⟩ : ∃ s, IsStrs W a2 len2 s := by
    obtain ⟨fuel, hf⟩ := h2
    rcases open_strings Yba.underlying39 Yba.underlying9 (by kernel_rfl) hf with ⟨hcs, _⟩ | ⟨x, l, c, ss, hcs, _, hl, hm, hz, _, hcell, _⟩
    · simp [Value.cells] at hcs
      obtain ⟨rfl, rfl, rfl⟩ := hcs
      exact ⟨fun _ => ByteArray.empty, by simp [maxLen], fun k hk => absurd hk (by omega)⟩
    · simp [Value.cells] at hcs
      obtain ⟨rfl, rfl, rfl⟩ := hcs
      exact ⟨_, isStrs_of (by omega) (by rw [hz]; simp; omega) hcell⟩
  clear hA0 hval0
  refine (walk x0 x1 a2 len2 cap2 x3 ss W hss (bounds_u8 wx3)).mono fun e W' ⟨he, bel⟩ => ?_
  subst he
  exact ⟨_, rfl, _, _, _, [], _, [], hW', trodAll_mk1 (shut_bool Yba.underlying4 _), (trodAll_cons_mk (Below.trod laidOut (by kernel_rfl) (of_decide_eq_true (by kernel_rfl)) k0 bel lt0) (trodAll_cons_mk (Below.trod laidOut (by kernel_rfl) (of_decide_eq_true (by kernel_rfl)) k1 bel lt1) (trodAll_cons_mk (Below.trod laidOut (by kernel_rfl) (of_decide_eq_true (by kernel_rfl)) k2 bel lt2) (trodAll_cons_mk (Below.trod laidOut (by kernel_rfl) (of_decide_eq_true (by kernel_rfl)) k3 bel lt3) trodAll_mk0)))), rfl, bel.frame _, fun h => by cases h⟩

theorem over : Rows.lawS194114BWholeRow.holds Yba.pinned (OpenSpec.ofChange Rows.lawS194114BWholeSpec) :=
  OpenClaim.holds_of_wide 4 Yba.f4 rfl rfl rfl rfl rfl rfl rfl ⟨rfl, rfl, rfl, rfl, rfl⟩ rfl rfl rfl rfl rfl (by kernel_rfl) Yba.func4 (by kernel_rfl)
    (of_decide_eq_true (by kernel_rfl)) (by unfold Func.isWrapper; first | (rw [if_pos (by decide +kernel)]; kernel_rfl) | (rw [if_neg (by decide +kernel)]; exact ⟨rfl, rfl⟩))
    (fun os started H enc _ => lifted os started H enc)

theorem proved : Rows.LawS194114BWholeSaid := over
end Go.Proofs.Ybulkexpby.lawS194114BWhole
