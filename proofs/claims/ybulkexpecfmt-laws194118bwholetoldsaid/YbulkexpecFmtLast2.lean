/- As Last: the last operation waits for all others, at one remove too. (Own law, any program.) -/
import Derived.Test.YbulkexpecFmtLast
namespace Go.RegInv
section
variable {P : Program} {ops : Array Oper} {last : Oper} {Q : Exit → Act → World → Prop}
/-- The last waits for operation j, or for one that waits for it. -/
def waits2 (ops : Array Oper) (last : Oper) (j : Nat) : Bool := last.after.any fun e => Region.binds .any e && (e.on == j || (match ops[e.on]? with | some o => o.after.any fun e' => e'.on == j && Region.binds .any e' | none => false))
/-- What is listed has what it waits for behind it. -/
def Closed (ops : Array Oper) (listed : Array Bool) : Prop := ∀ m o, ops[m]? = some o → listed.getD m false = true → ∀ e ∈ o.after, Region.binds .any e = true → listed.getD e.on false = true

theorem wpAny_last2 (hb : backOk (ops.push last) = true) (hl : ∀ j, j < ops.size → waits2 ops last j = true) :
    ∀ (fuel : Nat) (listed : Array Bool) (a : Act) (w : World), listed.size = ops.size → listed.countP (fun b => !b) = fuel → Closed ops listed →
      wpAny P .any ops (before P last Q) fuel listed a w → wpAny P .any (ops.push last) Q (fuel + 1) (listed.push false) a w := by
  have hlast : (ops.push last)[ops.size]? = some last := by simp
  have hnot : ∀ (listed : Array Bool), listed.size = ops.size → Region.ready .any (ops.push last) (listed.push false) ≠ [] := by
    intro listed hs hnil
    have := all_of_ready_nil (ops := ops.push last) (listed := listed.push false) (by simp [hs]) hb hnil ops.size (by simp)
    rw [← hs, push_last] at this
    cases this
  intro fuel
  induction fuel with
  | zero =>
    intro listed a w hs hc hcl h
    have hall := all_true hc
    refine ⟨fun hnil => absurd hnil (hnot listed hs), fun i hi => ?_⟩
    obtain ⟨hlt, hno, _⟩ := mem_ready hi
    have hin : i = ops.size := by
      simp only [Array.size_push] at hlt
      rcases Nat.lt_or_ge i ops.size with h1 | h1
      · exfalso
        have h2 := hall i (by omega)
        rw [push_getD _ _ _ (by omega)] at hno
        rw [Array.getD_eq_getD_getElem?, Array.getElem?_eq_getElem (by omega)] at h2 hno
        simp only [Option.getD_some] at h2 hno
        rw [h2] at hno
        cases hno
      · omega
    subst hin
    unfold wpOp
    rw [hlast]
    simp only [Region.wanted, (backOk_spec hb hlast).2, if_true]
    left
    refine Oper.wp_mono (fun a' w' hq => ?_) h.2
    refine ⟨ready_nil_of_all (by simp [hs]) fun j hj => ?_, hq⟩
    simp only [Array.size_push] at hj
    rcases Nat.lt_or_ge j ops.size with h1 | h1
    · rw [Array.getD_eq_getD_getElem?, Array.getElem?_setIfInBounds_ne (by omega), ← Array.getD_eq_getD_getElem?, push_getD _ _ _ (by omega)]
      exact hall j (by omega)
    · have : j = ops.size := by omega
      subst this
      rw [Array.getD_eq_getD_getElem?, Array.getElem?_setIfInBounds_self_of_lt (by simp [hs])]
      rfl
  | succ fuel ih =>
    intro listed a w hs hc hcl h
    refine ⟨fun hnil => absurd hnil (hnot listed hs), fun i hi => ?_⟩
    obtain ⟨hlt, hno, hdeps⟩ := mem_ready hi
    simp only [Array.size_push] at hlt
    have hin : i < ops.size := by
      rcases Nat.lt_or_ge i ops.size with h1 | h1
      · exact h1
      · exfalso
        have : i = ops.size := by omega
        subst this
        have hd := hdeps last hlast
        have : listed.countP (fun b => !b) = 0 := by
          rw [Array.countP_eq_zero]
          intro b hbm
          obtain ⟨j, hj, rfl⟩ := Array.getElem_of_mem hbm
          have h2 := hl j (by omega)
          unfold waits2 at h2
          rw [Array.any_eq_true'] at h2
          obtain ⟨e, he, h3⟩ := h2
          simp only [Bool.and_eq_true, Bool.or_eq_true, beq_iff_eq] at h3
          have h4 := hd e he h3.1
          rcases h3.2 with h5 | h5
          · rw [h5, push_getD _ _ _ hj, Array.getD_eq_getD_getElem?, Array.getElem?_eq_getElem hj] at h4
            simpa using h4
          · cases ho : ops[e.on]? with
            | none => rw [ho] at h5; cases h5
            | some om =>
              rw [ho] at h5
              simp only [Array.any_eq_true', Bool.and_eq_true, beq_iff_eq] at h5
              obtain ⟨e', he', h6, h7⟩ := h5
              have hlt2 : e.on < ops.size := (Array.getElem?_eq_some_iff.1 ho).1
              rw [push_getD _ _ _ (by omega)] at h4
              have h8 := hcl e.on om ho (by rw [Array.getD_eq_getD_getElem?, Array.getElem?_eq_getElem (by omega)] at h4 ⊢; simpa using h4) e' he' h7
              rw [h6, Array.getD_eq_getD_getElem?, Array.getElem?_eq_getElem hj] at h8
              simpa using h8
        omega
    have hoi : ops[i]? = some ops[i] := Array.getElem?_eq_getElem hin
    have hof : (ops.push last)[i]? = some ops[i] := by rw [Array.getElem?_push, if_neg (by omega)]; exact hoi
    have hspec := backOk_spec hb hof
    have hno' : listed.getD i true = false := by rw [push_getD _ _ _ (by omega)] at hno; exact hno
    have hi' : i ∈ Region.ready .any ops listed := by
      unfold Region.ready
      rw [List.mem_filter]
      refine ⟨List.mem_range.2 hin, ?_⟩
      simp only [hno', hoi, Option.map_some, Option.getD_some, Bool.not_false, Bool.true_and, Array.all_eq_true_iff_forall_mem, Bool.or_eq_true]
      intro e he
      cases hbe : Region.binds .any e with
      | false => exact .inl rfl
      | true =>
        right
        have h1 := hdeps _ hof e he hbe
        rwa [push_getD _ _ _ (by have := hspec.1 e he; omega)] at h1
    have hstep := h.2 i hi'
    have hval : listed[i]'(by omega) = false := by
      rw [Array.getD_eq_getD_getElem?, Array.getElem?_eq_getElem (by omega)] at hno'
      simpa using hno'
    have hcount : (listed.setIfInBounds i true).countP (fun b => !b) = fuel := by
      rw [Array.setIfInBounds, dif_pos (by omega), Array.countP_set (by omega)]
      simp [hval, hc]
    have hclo : Closed ops (listed.setIfInBounds i true) := by
      intro m o hm ht e he hbe
      have hget : ∀ q, (listed.setIfInBounds i true).getD q false = true ↔ (q = i ∧ i < listed.size) ∨ listed.getD q false = true := by
        intro q
        simp only [Array.getD_eq_getD_getElem?, Array.getElem?_setIfInBounds]
        by_cases hq : i = q
        · subst hq
          simp [show i < listed.size by omega]
        · simp [hq, show ¬ q = i from fun h => hq h.symm]
      rw [hget] at ht ⊢
      rcases ht with ⟨rfl, _⟩ | ht
      · right
        have hom : o = ops[m] := by rw [hoi] at hm; exact (Option.some.inj hm).symm
        subst hom
        have h1 := hdeps _ hof e he hbe
        rw [push_getD _ _ _ (by have := hspec.1 e he; omega)] at h1
        have hlt3 : e.on < listed.size := by have := hspec.1 e he; omega
        rw [Array.getD_eq_getD_getElem?, Array.getElem?_eq_getElem hlt3] at h1 ⊢
        simpa using h1
      · right
        exact hcl m o hm ht e he hbe
    rw [push_set _ _ (by omega)]
    unfold wpOp at hstep ⊢
    rw [hoi] at hstep
    rw [hof]
    simp only [Region.wanted, hspec.2, if_true] at hstep ⊢
    rcases hstep with hstep | ⟨h1, h2⟩
    · left
      exact oper_before (Oper.wp_mono (fun a' w' hk => ih _ a' w' (by simp [hs]) hcount hclo hk) hstep)
    · exact .inr ⟨h1, h2⟩

/-- The law. -/
theorem wp_region_last2 {S : World → Prop} {id : Nat} {a : Act} {w : World} (hm : P.follows .mixedOrders = true) (hb : backOk (ops.push last) = true) (hl : ∀ j, j < ops.size → waits2 ops last j = true)
    (hS : S w.drew) (h : S w.drew → wpAnyH P .any ops (before P last Q) S ops.size (Array.replicate ops.size false) a w.drew) : (Code.region id (ops.push last) true).wp P Q a w := by
  refine wp_region_any hm ?_
  have h1 := wpAny_last2 hb hl ops.size (Array.replicate ops.size false) a w.drew (by simp) (by simp [Array.countP_replicate]) (by intro m o hm ht; simp [Array.getD_eq_getD_getElem?, Array.getElem?_replicate] at ht; split at ht <;> simp at ht) (wpAny_of_held _ _ _ _ (h hS))
  have h2 : (Array.replicate ops.size false).push false = Array.replicate (ops.push last).size false := by rw [Array.size_push, Array.replicate_succ]
  rw [h2] at h1
  simpa using h1

/-- The law, at a region written out. -/
theorem wp_region_back2 {full : Array Oper} {S : World → Prop} {id : Nat} {a : Act} {w : World} (hm : P.follows .mixedOrders = true) (_ : full.back? = some last) (hf : full.pop.push last = full) (hb : backOk full = true) (hl : ((List.range full.pop.size).all fun j => waits2 full.pop last j) = true)
    (hS : S w.drew) (h : S w.drew → wpAnyH P .any full.pop (before P last Q) S full.pop.size (Array.replicate full.pop.size false) a w.drew) : (Code.region id full true).wp P Q a w := by
  have h1 := wp_region_last2 (P := P) (Q := Q) (ops := full.pop) (last := last) (id := id) hm (by rw [hf]; exact hb) (fun j hj => List.all_eq_true.1 hl j (List.mem_range.2 hj)) hS h
  rwa [hf] at h1
end
end Go.RegInv
