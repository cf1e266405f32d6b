/- A law on a region that draws its order and holds calls and makes: an invariant over the operations done so far (own work, any program). -/
import Derived.Orders
import Derived.Laws.World
namespace Go.RegInv

def backOk (ops : Array Oper) : Bool :=
  (List.range ops.size).all fun i => match ops[i]? with
    | some o => (o.after.all fun e => decide (e.on < i)) && o.guard.isNone
    | none => false

def dstOk (n : Nat) (ops : Array Oper) : Bool :=
  (List.range ops.size).all fun i => (List.range ops.size).all fun j => match ops[i]?, ops[j]? with
    | some o, some p => (match o.dst with
      | some d => decide (d < n) && (decide (i = j) || p.dst != some d)
      | none => true)
    | _, _ => true

def noDst (ops : Array Oper) (t : Nat) : Bool := ops.all fun o => o.dst != some t

theorem backOk_spec {ops : Array Oper} (h : backOk ops = true) {i : Nat} {o : Oper} (ho : ops[i]? = some o) :
    (∀ e ∈ o.after, e.on < i) ∧ o.guard = none := by
  have hi : i < ops.size := (Array.getElem?_eq_some_iff.1 ho).1
  have := List.all_eq_true.1 h i (List.mem_range.2 hi)
  rw [ho] at this
  simp only [Bool.and_eq_true, Array.all_eq_true_iff_forall_mem, decide_eq_true_eq, Option.isNone_iff_eq_none] at this
  exact this

theorem dstOk_spec {n : Nat} {ops : Array Oper} (h : dstOk n ops = true) {i : Nat} {o : Oper} (ho : ops[i]? = some o) {d : Nat} (hd : o.dst = some d) :
    d < n ∧ ∀ j p, ops[j]? = some p → j ≠ i → p.dst ≠ some d := by
  have hi : i < ops.size := (Array.getElem?_eq_some_iff.1 ho).1
  have h1 := List.all_eq_true.1 h i (List.mem_range.2 hi)
  refine ⟨?_, fun j p hp hne => ?_⟩
  · have h2 := List.all_eq_true.1 h1 i (List.mem_range.2 hi)
    simp only [ho, hd, Bool.and_eq_true, decide_eq_true_eq] at h2
    exact h2.1
  · have hj : j < ops.size := (Array.getElem?_eq_some_iff.1 hp).1
    have h2 := List.all_eq_true.1 h1 j (List.mem_range.2 hj)
    simp only [ho, hd, hp, Bool.and_eq_true, decide_eq_true_eq, Bool.or_eq_true, bne_iff_ne] at h2
    rcases h2.2 with e | e
    · exact absurd e.symm hne
    · exact e

structure Inv (ops : Array Oper) (Good : Nat → Value → World → Prop) (J : World → Prop) (a0 : Act) (listed : Array Bool) (a : Act) (w : World) : Prop where
  defers : a.defers = a0.defers
  size : a.tmps.size = a0.tmps.size
  old : ∀ t, noDst ops t = true → a.tmps[t]? = a0.tmps[t]?
  good : ∀ i o d, ops[i]? = some o → listed.getD i false = true → o.dst = some d → ∃ v, a.tmps[d]? = some v ∧ Good i v w
  world : J w
  llen : listed.size = ops.size

section
variable {P : Program} {ops : Array Oper} {Q : Exit → Act → World → Prop}

theorem ready_nil_of_all {listed : Array Bool} (hl : listed.size = ops.size) (h : ∀ i, i < ops.size → listed.getD i false = true) : Region.ready .any ops listed = [] := by
  unfold Region.ready
  rw [List.filter_eq_nil_iff]
  intro i hi
  have hi' := List.mem_range.1 hi
  have := h i hi'
  have e : listed.getD i true = true := by
    rw [Array.getD_eq_getD_getElem?] at this ⊢
    rw [Array.getElem?_eq_getElem (by omega)] at this ⊢
    simpa using this
  simp [e]

theorem all_of_ready_nil {listed : Array Bool} (hl : listed.size = ops.size) (hb : backOk ops = true) (h : Region.ready .any ops listed = []) : ∀ i, i < ops.size → listed.getD i false = true := by
  intro i
  induction i using Nat.strongRecOn with
  | _ i ih =>
    intro hi
    cases hc : listed.getD i false with
    | true => rfl
    | false =>
      exfalso
      unfold Region.ready at h
      rw [List.filter_eq_nil_iff] at h
      apply h i (List.mem_range.2 hi)
      have e : listed.getD i true = false := by
        rw [Array.getD_eq_getD_getElem?] at hc ⊢
        rw [Array.getElem?_eq_getElem (by omega)] at hc ⊢
        simpa using hc
      have ho : ops[i]? = some ops[i] := Array.getElem?_eq_getElem hi
      rw [e, ho]
      simp only [Bool.not_false, Option.map_some, Option.getD_some, Bool.true_and, Array.all_eq_true_iff_forall_mem, Bool.or_eq_true]
      intro e he
      exact Or.inr (ih e.on ((backOk_spec hb ho).1 e he) (by have := (backOk_spec hb ho).1 e he; omega))

theorem mem_ready {listed : Array Bool} {i : Nat} (h : i ∈ Region.ready .any ops listed) :
    i < ops.size ∧ listed.getD i true = false ∧ ∀ o, ops[i]? = some o → ∀ e ∈ o.after, Region.binds .any e = true → listed.getD e.on false = true := by
  unfold Region.ready at h
  rw [List.mem_filter] at h
  obtain ⟨h1, h2⟩ := h
  simp only [Bool.and_eq_true, Bool.not_eq_true'] at h2
  refine ⟨List.mem_range.1 h1, h2.1, fun o ho e he hb => ?_⟩
  have := h2.2
  rw [ho] at this
  simp only [Option.map_some, Option.getD_some, Array.all_eq_true_iff_forall_mem, Bool.or_eq_true] at this
  rcases this e he with c | c
  · rw [hb] at c; cases c
  · exact c

theorem wpAny_inv (hb : backOk ops = true) {a0 : Act} (hd : dstOk a0.tmps.size ops = true)
    (Good : Nat → Value → World → Prop) (J : World → Prop) (S : World → World → Prop)
    (stable : ∀ i v w w', Good i v w → S w w' → Good i v w')
    (step : ∀ (i : Nat) (o : Oper), ops[i]? = some o → ∀ (a : Act) (w : World), a.tmps.size = a0.tmps.size → (∀ t, noDst ops t = true → a.tmps[t]? = a0.tmps[t]?) →
      (∀ e ∈ o.after, Region.binds .any e = true → ∀ (p : Oper) (d : Nat), ops[e.on]? = some p → p.dst = some d → ∃ v, a.tmps[d]? = some v ∧ Good e.on v w) → J w →
      o.wp P a w (fun a' w' => ∃ v, a' = a.put o.dst v ∧ Good i v w' ∧ J w' ∧ S w w') Q)
    (fin : ∀ (a : Act) (w : World), a.defers = a0.defers → a.tmps.size = a0.tmps.size → (∀ t, noDst ops t = true → a.tmps[t]? = a0.tmps[t]?) →
      (∀ (i : Nat) (o : Oper) (d : Nat), ops[i]? = some o → o.dst = some d → ∃ v, a.tmps[d]? = some v ∧ Good i v w) → J w → Q .normal a w) :
    ∀ (fuel : Nat) (listed : Array Bool) (a : Act) (w : World), listed.countP (fun b => !b) = fuel → Inv ops Good J a0 listed a w → wpAny P .any ops Q fuel listed a w := by
  have hfin : ∀ (listed : Array Bool) (a : Act) (w : World), (∀ i, i < ops.size → listed.getD i false = true) → Inv ops Good J a0 listed a w → Q .normal a w := by
    intro listed a w hall hI
    refine fin a w hI.defers hI.size hI.old (fun i o d ho hdst => hI.good i o d ho (hall i (Array.getElem?_eq_some_iff.1 ho).1) hdst) hI.world
  intro fuel
  induction fuel with
  | zero =>
    intro listed a w hc hI
    have hall : ∀ i, i < ops.size → listed.getD i false = true := by
      intro i hi
      have hil : i < listed.size := by rw [hI.llen]; exact hi
      rw [Array.countP_eq_zero] at hc
      have := hc listed[i] (Array.getElem_mem hil)
      rw [Array.getD_eq_getD_getElem?, Array.getElem?_eq_getElem hil]
      simpa using this
    exact ⟨ready_nil_of_all hI.llen hall, hfin listed a w hall hI⟩
  | succ fuel ih =>
    intro listed a w hc hI
    refine ⟨fun hnil => hfin listed a w (all_of_ready_nil hI.llen hb hnil) hI, fun i hi => ?_⟩
    obtain ⟨hlt, hno, hdeps⟩ := mem_ready hi
    have hil : i < listed.size := by rw [hI.llen]; exact hlt
    have ho : ops[i]? = some ops[i] := Array.getElem?_eq_getElem hlt
    have hval : listed[i] = false := by
      rw [Array.getD_eq_getD_getElem?, Array.getElem?_eq_getElem hil] at hno
      simpa using hno
    have hcount : (listed.setIfInBounds i true).countP (fun b => !b) = fuel := by
      rw [Array.setIfInBounds, dif_pos hil, Array.countP_set hil]
      simp [hval, hc]
    have hg := (backOk_spec hb ho).2
    unfold wpOp
    rw [ho]
    simp only [Region.wanted, hg, if_true]
    left
    have hs := step i ops[i] ho a w hI.size hI.old (fun e he hbind p d hp hpd => hI.good e.on p d hp (hdeps _ ho e he hbind) hpd) hI.world
    refine Oper.wp_mono (fun a' w' hk => ?_) hs
    obtain ⟨v, rfl, hgood, hJ, hS⟩ := hk
    refine ih _ _ _ hcount ⟨?_, ?_, ?_, ?_, hJ, by simp [hI.llen]⟩
    · cases hdst : ops[i].dst <;> simp [Act.put, hI.defers]
    · cases hdst : ops[i].dst <;> simp [Act.put, hI.size]
    · intro t ht
      cases hdst : ops[i].dst with
      | none => simpa [Act.put] using hI.old t ht
      | some d =>
        have hne : d ≠ t := by
          intro e
          subst e
          have := (Array.all_eq_true_iff_forall_mem.1 ht) ops[i] (Array.getElem_mem hlt)
          simp [hdst] at this
        simp only [Act.put]
        rw [Array.getElem?_setIfInBounds_ne hne]
        exact hI.old t ht
    · intro j o d hj hl hod
      by_cases hji : j = i
      · subst hji
        have e : o = ops[j] := by rw [ho] at hj; exact (Option.some.inj hj).symm
        subst e
        refine ⟨v, ?_, hgood⟩
        have hdn := (dstOk_spec hd ho hod).1
        simp only [hod, Act.put]
        rw [Array.getElem?_setIfInBounds_self_of_lt (by rw [hI.size]; exact hdn)]
      · have hl' : listed.getD j false = true := by
          rw [Array.getD_eq_getD_getElem?] at hl ⊢
          rwa [Array.getElem?_setIfInBounds_ne (Ne.symm hji)] at hl
        obtain ⟨u, hu, hgu⟩ := hI.good j o d hj hl' hod
        refine ⟨u, ?_, stable _ _ _ _ hgu hS⟩
        cases hdst : ops[i].dst with
        | none => simpa [Act.put] using hu
        | some d' =>
          have hne : d' ≠ d := by
            intro e
            subst e
            exact (dstOk_spec hd ho hdst).2 j o hj hji hod
          simp only [Act.put]
          rw [Array.getElem?_setIfInBounds_ne hne]
          exact hu

theorem wp_region_inv {id : Nat} {a0 : Act} {w0 : World} (hm : P.follows .mixedOrders = true) (hb : backOk ops = true) (hd : dstOk a0.tmps.size ops = true)
    (Good : Nat → Value → World → Prop) (J : World → Prop) (S : World → World → Prop)
    (stable : ∀ i v w w', Good i v w → S w w' → Good i v w')
    (start : J w0.drew)
    (step : ∀ (i : Nat) (o : Oper), ops[i]? = some o → ∀ (a : Act) (w : World), a.tmps.size = a0.tmps.size → (∀ t, noDst ops t = true → a.tmps[t]? = a0.tmps[t]?) →
      (∀ e ∈ o.after, Region.binds .any e = true → ∀ (p : Oper) (d : Nat), ops[e.on]? = some p → p.dst = some d → ∃ v, a.tmps[d]? = some v ∧ Good e.on v w) → J w →
      o.wp P a w (fun a' w' => ∃ v, a' = a.put o.dst v ∧ Good i v w' ∧ J w' ∧ S w w') Q)
    (fin : ∀ (a : Act) (w : World), a.defers = a0.defers → a.tmps.size = a0.tmps.size → (∀ t, noDst ops t = true → a.tmps[t]? = a0.tmps[t]?) →
      (∀ (i : Nat) (o : Oper) (d : Nat), ops[i]? = some o → o.dst = some d → ∃ v, a.tmps[d]? = some v ∧ Good i v w) → J w → Q .normal a w) :
    (Code.region id ops true).wp P Q a0 w0 := by
  refine wp_region_any hm ?_
  refine wpAny_inv hb hd Good J S stable step fin ops.size (Array.replicate ops.size false) a0 _ (by simp [Array.countP_replicate]) ⟨rfl, rfl, fun _ _ => rfl, ?_, start, by simp⟩
  intro i o d ho hl
  simp only [Array.getD_eq_getD_getElem?, Array.getElem?_replicate] at hl
  split at hl <;> simp at hl

theorem wp_of_run {o : Oper} {a : Act} {w w' : World} {v : Value} {next : Act → World → Prop} (h : (execOp a.eval o).run P w = .ok (.value v) w') (hn : next (a.put o.dst v) w') : o.wp P a w next Q := by
  unfold Oper.wp; rw [h]; exact hn

theorem wp_of_call {o : Oper} {a : Act} {w w' : World} {f : FuncId} {args : Array Value} {next : Act → World → Prop} (h : (execOp a.eval o).run P w = .ok (.enter f args) w')
    (hc : Calls P f args w' fun e w'' => ∃ v, e = .returned v ∧ next (a.put o.dst v) w'') : o.wp P a w next Q := by
  unfold Oper.wp; rw [h]
  refine hc.mono fun e w'' he => ?_
  obtain ⟨v, rfl, hn⟩ := he
  exact hn

/-- The same law, the operations' slots as the walk reads them. -/
theorem wp_region_inv' {id : Nat} {a0 : Act} {w0 : World} (hm : P.follows .mixedOrders = true) (hb : backOk ops = true) (hd : dstOk a0.tmps.size ops = true)
    (Good : Nat → Value → World → Prop) (J : World → Prop) (S : World → World → Prop)
    (stable : ∀ i v w w', Good i v w → S w w' → Good i v w')
    (start : J w0.drew)
    (step : ∀ (i : Nat) (o : Oper), ops[i]? = some o → ∀ (a : Act) (w : World), (∀ t, noDst ops t = true → a.eval (.tmp t) = a0.eval (.tmp t)) →
      (∀ j d, (o.after.any fun e => e.on == j && Region.binds .any e) = true → (ops[j]?).bind (·.dst) = some d → Good j (a.eval (.tmp d)) w) → J w →
      o.wp P a w (fun a' w' => ∃ v, a' = a.put o.dst v ∧ Good i v w' ∧ J w' ∧ S w w') Q)
    (fin : ∀ (a : Act) (w : World), a.defers = a0.defers → a.tmps.size = a0.tmps.size → (∀ t, noDst ops t = true → a.eval (.tmp t) = a0.eval (.tmp t)) →
      (∀ j d, (ops[j]?).bind (·.dst) = some d → Good j (a.eval (.tmp d)) w) → J w → Q .normal a w) :
    (Code.region id ops true).wp P Q a0 w0 := by
  have ev : ∀ (a : Act), (∀ t, noDst ops t = true → a.tmps[t]? = a0.tmps[t]?) → ∀ t, noDst ops t = true → a.eval (.tmp t) = a0.eval (.tmp t) := by
    intro a h t ht
    simp only [Act.eval, Array.getD_eq_getD_getElem?, h t ht]
  refine wp_region_inv hm hb hd Good J S stable start (fun i o ho a w hs hold hdep hJ => ?_) (fun a w hdf hs hold hgood hJ => ?_)
  · refine step i o ho a w (ev a hold) (fun j d hj hjd => ?_) hJ
    rw [Array.any_eq_true'] at hj
    obtain ⟨e, he, hj⟩ := hj
    simp only [Bool.and_eq_true, beq_iff_eq] at hj
    obtain ⟨rfl, hbd⟩ := hj
    obtain ⟨p, hp, hpd⟩ := Option.bind_eq_some_iff.1 hjd
    obtain ⟨v, hv, hg⟩ := hdep e he hbd p d hp hpd
    simpa only [Act.eval, Array.getD_eq_getD_getElem?, hv, Option.getD_some] using hg
  · refine fin a w hdf hs (ev a hold) (fun j d hjd => ?_) hJ
    obtain ⟨p, hp, hpd⟩ := Option.bind_eq_some_iff.1 hjd
    obtain ⟨v, hv, hg⟩ := hgood j p d hp hpd
    simpa only [Act.eval, Array.getD_eq_getD_getElem?, hv, Option.getD_some] using hg
end
end Go.RegInv
