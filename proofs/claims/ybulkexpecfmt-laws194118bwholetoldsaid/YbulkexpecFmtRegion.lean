/- A law on a region that draws its order and holds calls and makes: an invariant over the operations done so far (own work, any program). -/
import Derived.Orders
import Derived.Laws.World
namespace Go.RegInv

def backOk (ops : Array Oper) : Bool :=
  (List.range ops.size).all fun i => match ops[i]? with
    | some o => (o.after.all fun e => decide (e.on < i)) && o.guard.isNone
    | none => false

def dstOk (n : Nat) (ops : Array Oper) : Bool :=
  (List.range ops.size).all fun i => (List.range ops.size).all fun j => match ops[i]?, ops[j]? with
    | some o, some p => (match o.dst with
      | some d => decide (d < n) && (decide (i = j) || p.dst != some d)
      | none => true)
    | _, _ => true

def noDst (ops : Array Oper) (t : Nat) : Bool := ops.all fun o => o.dst != some t

theorem backOk_spec {ops : Array Oper} (h : backOk ops = true) {i : Nat} {o : Oper} (ho : ops[i]? = some o) :
    (∀ e ∈ o.after, e.on < i) ∧ o.guard = none := by
  have hi : i < ops.size := (Array.getElem?_eq_some_iff.1 ho).1
  have := List.all_eq_true.1 h i (List.mem_range.2 hi)
  rw [ho] at this
  simp only [Bool.and_eq_true, Array.all_eq_true_iff_forall_mem, decide_eq_true_eq, Option.isNone_iff_eq_none] at this
  exact this

theorem dstOk_spec {n : Nat} {ops : Array Oper} (h : dstOk n ops = true) {i : Nat} {o : Oper} (ho : ops[i]? = some o) {d : Nat} (hd : o.dst = some d) :
    d < n ∧ ∀ j p, ops[j]? = some p → j ≠ i → p.dst ≠ some d := by
  have hi : i < ops.size := (Array.getElem?_eq_some_iff.1 ho).1
  have h1 := List.all_eq_true.1 h i (List.mem_range.2 hi)
  refine ⟨?_, fun j p hp hne => ?_⟩
  · have h2 := List.all_eq_true.1 h1 i (List.mem_range.2 hi)
    simp only [ho, hd, Bool.and_eq_true, decide_eq_true_eq] at h2
    exact h2.1
  · have hj : j < ops.size := (Array.getElem?_eq_some_iff.1 hp).1
    have h2 := List.all_eq_true.1 h1 j (List.mem_range.2 hj)
    simp only [ho, hd, hp, Bool.and_eq_true, decide_eq_true_eq, Bool.or_eq_true, bne_iff_ne] at h2
    rcases h2.2 with e | e
    · exact absurd e.symm hne
    · exact e

/-- j stands among what i waits for. -/
def hasDep (ops : Array Oper) (i j : Nat) : Bool := match ops[i]? with
  | some o => o.after.any fun e => e.on == j && Region.binds .any e
  | none => false

structure Inv (ops : Array Oper) (Good : Nat → Value → World → Prop) (J : (Nat → Bool) → World → Prop) (a0 : Act) (listed : Array Bool) (a : Act) (w : World) : Prop where
  defers : a.defers = a0.defers
  size : a.tmps.size = a0.tmps.size
  old : ∀ t, noDst ops t = true → a.tmps[t]? = a0.tmps[t]?
  good : ∀ i o d, ops[i]? = some o → listed.getD i false = true → o.dst = some d → ∃ v, a.tmps[d]? = some v ∧ Good i v w
  world : J (fun j => listed.getD j false) w
  llen : listed.size = ops.size
  fresh : ∀ i o d, ops[i]? = some o → listed.getD i false = false → o.dst = some d → a.tmps[d]? = a0.tmps[d]?
  closed : ∀ i o, ops[i]? = some o → listed.getD i false = true → ∀ e ∈ o.after, Region.binds .any e = true → listed.getD e.on false = true

section
variable {P : Program} {ops : Array Oper} {Q : Exit → Act → World → Prop}

theorem ready_nil_of_all {listed : Array Bool} (hl : listed.size = ops.size) (h : ∀ i, i < ops.size → listed.getD i false = true) : Region.ready .any ops listed = [] := by
  unfold Region.ready
  rw [List.filter_eq_nil_iff]
  intro i hi
  have hi' := List.mem_range.1 hi
  have := h i hi'
  have e : listed.getD i true = true := by
    rw [Array.getD_eq_getD_getElem?] at this ⊢
    rw [Array.getElem?_eq_getElem (by omega)] at this ⊢
    simpa using this
  simp [e]

theorem all_of_ready_nil {listed : Array Bool} (hl : listed.size = ops.size) (hb : backOk ops = true) (h : Region.ready .any ops listed = []) : ∀ i, i < ops.size → listed.getD i false = true := by
  intro i
  induction i using Nat.strongRecOn with
  | _ i ih =>
    intro hi
    cases hc : listed.getD i false with
    | true => rfl
    | false =>
      exfalso
      unfold Region.ready at h
      rw [List.filter_eq_nil_iff] at h
      apply h i (List.mem_range.2 hi)
      have e : listed.getD i true = false := by
        rw [Array.getD_eq_getD_getElem?] at hc ⊢
        rw [Array.getElem?_eq_getElem (by omega)] at hc ⊢
        simpa using hc
      have ho : ops[i]? = some ops[i] := Array.getElem?_eq_getElem hi
      rw [e, ho]
      simp only [Bool.not_false, Option.map_some, Option.getD_some, Bool.true_and, Array.all_eq_true_iff_forall_mem, Bool.or_eq_true]
      intro e he
      exact Or.inr (ih e.on ((backOk_spec hb ho).1 e he) (by have := (backOk_spec hb ho).1 e he; omega))

theorem mem_ready {listed : Array Bool} {i : Nat} (h : i ∈ Region.ready .any ops listed) :
    i < ops.size ∧ listed.getD i true = false ∧ ∀ o, ops[i]? = some o → ∀ e ∈ o.after, Region.binds .any e = true → listed.getD e.on false = true := by
  unfold Region.ready at h
  rw [List.mem_filter] at h
  obtain ⟨h1, h2⟩ := h
  simp only [Bool.and_eq_true, Bool.not_eq_true'] at h2
  refine ⟨List.mem_range.1 h1, h2.1, fun o ho e he hb => ?_⟩
  have := h2.2
  rw [ho] at this
  simp only [Option.map_some, Option.getD_some, Array.all_eq_true_iff_forall_mem, Bool.or_eq_true] at this
  rcases this e he with c | c
  · rw [hb] at c; cases c
  · exact c

theorem wpAny_inv (hb : backOk ops = true) {a0 : Act} (hd : dstOk a0.tmps.size ops = true)
    (Good : Nat → Value → World → Prop) (J : (Nat → Bool) → World → Prop) (S : Nat → World → World → Prop)
    (stable : ∀ i j v w w', i ≠ j → hasDep ops i j = false → Good i v w → S j w w' → Good i v w')
    (step : ∀ (i : Nat) (o : Oper), ops[i]? = some o → ∀ (a : Act) (w : World), a.tmps.size = a0.tmps.size → (∀ t, noDst ops t = true → a.tmps[t]? = a0.tmps[t]?) → (∀ (j : Nat) (oj : Oper) (t : Nat), ops[j]? = some oj → oj.dst = some t → hasDep ops j i = true → a.tmps[t]? = a0.tmps[t]?) →
      (∀ e ∈ o.after, Region.binds .any e = true → ∀ (p : Oper) (d : Nat), ops[e.on]? = some p → p.dst = some d → ∃ v, a.tmps[d]? = some v ∧ Good e.on v w) → ∀ d : Nat → Bool, d i = false → (∀ e ∈ o.after, Region.binds .any e = true → d e.on = true) → J d w →
      o.wp P a w (fun a' w' => ∃ v, a' = a.put o.dst v ∧ Good i v w' ∧ J (fun j => d j || j == i) w' ∧ S i w w') Q)
    (fin : ∀ (a : Act) (w : World), a.defers = a0.defers → a.tmps.size = a0.tmps.size → (∀ t, noDst ops t = true → a.tmps[t]? = a0.tmps[t]?) →
      (∀ (i : Nat) (o : Oper) (d : Nat), ops[i]? = some o → o.dst = some d → ∃ v, a.tmps[d]? = some v ∧ Good i v w) → (∀ d : Nat → Bool, (∀ i, i < ops.size → d i = true) → J d w → Q .normal a w)) :
    ∀ (fuel : Nat) (listed : Array Bool) (a : Act) (w : World), listed.countP (fun b => !b) = fuel → Inv ops Good J a0 listed a w → wpAny P .any ops Q fuel listed a w := by
  have hfin : ∀ (listed : Array Bool) (a : Act) (w : World), (∀ i, i < ops.size → listed.getD i false = true) → Inv ops Good J a0 listed a w → Q .normal a w := by
    intro listed a w hall hI
    refine fin a w hI.defers hI.size hI.old (fun i o d ho hdst => hI.good i o d ho (hall i (Array.getElem?_eq_some_iff.1 ho).1) hdst) (fun j => listed.getD j false) hall hI.world
  intro fuel
  induction fuel with
  | zero =>
    intro listed a w hc hI
    have hall : ∀ i, i < ops.size → listed.getD i false = true := by
      intro i hi
      have hil : i < listed.size := by rw [hI.llen]; exact hi
      rw [Array.countP_eq_zero] at hc
      have := hc listed[i] (Array.getElem_mem hil)
      rw [Array.getD_eq_getD_getElem?, Array.getElem?_eq_getElem hil]
      simpa using this
    exact ⟨ready_nil_of_all hI.llen hall, hfin listed a w hall hI⟩
  | succ fuel ih =>
    intro listed a w hc hI
    refine ⟨fun hnil => hfin listed a w (all_of_ready_nil hI.llen hb hnil) hI, fun i hi => ?_⟩
    obtain ⟨hlt, hno, hdeps⟩ := mem_ready hi
    have hil : i < listed.size := by rw [hI.llen]; exact hlt
    have ho : ops[i]? = some ops[i] := Array.getElem?_eq_getElem hlt
    have hval : listed[i] = false := by
      rw [Array.getD_eq_getD_getElem?, Array.getElem?_eq_getElem hil] at hno
      simpa using hno
    have hcount : (listed.setIfInBounds i true).countP (fun b => !b) = fuel := by
      rw [Array.setIfInBounds, dif_pos hil, Array.countP_set hil]
      simp [hval, hc]
    have hg := (backOk_spec hb ho).2
    unfold wpOp
    rw [ho]
    simp only [Region.wanted, hg, if_true]
    left
    have hlate : ∀ (j : Nat) (oj : Oper) (t : Nat), ops[j]? = some oj → oj.dst = some t → hasDep ops j i = true → a.tmps[t]? = a0.tmps[t]? := by
      intro j oj t hoj hjt hdep
      refine hI.fresh j oj t hoj ?_ hjt
      cases hlj : listed.getD j false with
      | false => rfl
      | true =>
        exfalso
        unfold hasDep at hdep
        rw [hoj] at hdep
        simp only [Array.any_eq_true'] at hdep
        obtain ⟨e, he, hh⟩ := hdep
        simp only [Bool.and_eq_true, beq_iff_eq] at hh
        have := hI.closed j oj hoj hlj e he hh.2
        rw [hh.1, Array.getD_eq_getD_getElem?, Array.getElem?_eq_getElem hil] at this
        simp [hval] at this
    have hs := step i ops[i] ho a w hI.size hI.old hlate (fun e he hbind p d hp hpd => hI.good e.on p d hp (hdeps _ ho e he hbind) hpd) (fun j => listed.getD j false) (by rw [Array.getD_eq_getD_getElem?, Array.getElem?_eq_getElem hil]; simpa using hval) (fun e he hbind => hdeps _ ho e he hbind) hI.world
    refine Oper.wp_mono (fun a' w' hk => ?_) hs
    obtain ⟨v, rfl, hgood, hJ, hS⟩ := hk
    have hfun : (fun j => (listed.setIfInBounds i true).getD j false) = fun j => listed.getD j false || j == i := by
      funext j
      by_cases hji : j = i
      · subst hji
        rw [Array.getD_eq_getD_getElem?, Array.getElem?_setIfInBounds_self_of_lt hil]; simp
      · rw [Array.getD_eq_getD_getElem?, Array.getElem?_setIfInBounds_ne (Ne.symm hji), Array.getD_eq_getD_getElem?]; simp [hji]
    refine ih _ _ _ hcount ⟨?_, ?_, ?_, ?_, by rw [hfun]; exact hJ, by simp [hI.llen], ?_, ?_⟩
    rotate_right 2
    · intro j oj t hoj hlj hjt
      have hset : (listed.setIfInBounds i true).getD j false = (listed.getD j false || j == i) := congrFun hfun j
      rw [hset] at hlj
      have hji : j ≠ i := by rintro rfl; simp at hlj
      have hlj' : listed.getD j false = false := by simpa [hji] using hlj
      have h0 := hI.fresh j oj t hoj hlj' hjt
      cases hdst : ops[i].dst with
      | none => simpa [Act.put] using h0
      | some d' =>
        have hne : d' ≠ t := by
          intro e
          subst e
          exact (dstOk_spec hd ho hdst).2 j oj hoj hji hjt
        simp only [Act.put]
        rw [Array.getElem?_setIfInBounds_ne hne]
        exact h0
    · intro j oj hoj hlj e he hbe
      have hset : ∀ t, (listed.setIfInBounds i true).getD t false = (listed.getD t false || t == i) := fun t => congrFun hfun t
      rw [hset] at hlj ⊢
      by_cases hji : j = i
      · subst hji
        have e' : oj = ops[j] := by rw [ho] at hoj; exact (Option.some.inj hoj).symm
        subst e'
        rw [hdeps _ ho e he hbe]; rfl
      · have : listed.getD j false = true := by simpa [hji] using hlj
        rw [hI.closed j oj hoj this e he hbe]; rfl
    · cases hdst : ops[i].dst <;> simp [Act.put, hI.defers]
    · cases hdst : ops[i].dst <;> simp [Act.put, hI.size]
    · intro t ht
      cases hdst : ops[i].dst with
      | none => simpa [Act.put] using hI.old t ht
      | some d =>
        have hne : d ≠ t := by
          intro e
          subst e
          have := (Array.all_eq_true_iff_forall_mem.1 ht) ops[i] (Array.getElem_mem hlt)
          simp [hdst] at this
        simp only [Act.put]
        rw [Array.getElem?_setIfInBounds_ne hne]
        exact hI.old t ht
    · intro j o d hj hl hod
      by_cases hji : j = i
      · subst hji
        have e : o = ops[j] := by rw [ho] at hj; exact (Option.some.inj hj).symm
        subst e
        refine ⟨v, ?_, hgood⟩
        have hdn := (dstOk_spec hd ho hod).1
        simp only [hod, Act.put]
        rw [Array.getElem?_setIfInBounds_self_of_lt (by rw [hI.size]; exact hdn)]
      · have hl' : listed.getD j false = true := by
          rw [Array.getD_eq_getD_getElem?] at hl ⊢
          rwa [Array.getElem?_setIfInBounds_ne (Ne.symm hji)] at hl
        obtain ⟨u, hu, hgu⟩ := hI.good j o d hj hl' hod
        have hnd : hasDep ops j i = false := by
          cases hh : hasDep ops j i with
          | false => rfl
          | true =>
            exfalso
            unfold hasDep at hh
            rw [hj] at hh
            simp only [Array.any_eq_true'] at hh
            obtain ⟨e, he, hh⟩ := hh
            simp only [Bool.and_eq_true, beq_iff_eq] at hh
            have := hI.closed j o hj hl' e he hh.2
            rw [hh.1, Array.getD_eq_getD_getElem?, Array.getElem?_eq_getElem hil] at this
            simp [hval] at this
        refine ⟨u, ?_, stable _ _ _ _ _ hji hnd hgu hS⟩
        cases hdst : ops[i].dst with
        | none => simpa [Act.put] using hu
        | some d' =>
          have hne : d' ≠ d := by
            intro e
            subst e
            exact (dstOk_spec hd ho hdst).2 j o hj hji hod
          simp only [Act.put]
          rw [Array.getElem?_setIfInBounds_ne hne]
          exact hu

theorem wp_region_inv {id : Nat} {a0 : Act} {w0 : World} (hm : P.follows .mixedOrders = true) (hb : backOk ops = true) (hd : dstOk a0.tmps.size ops = true)
    (Good : Nat → Value → World → Prop) (J : (Nat → Bool) → World → Prop) (S : Nat → World → World → Prop)
    (stable : ∀ i j v w w', i ≠ j → hasDep ops i j = false → Good i v w → S j w w' → Good i v w')
    (start : J (fun _ => false) w0.drew)
    (step : ∀ (i : Nat) (o : Oper), ops[i]? = some o → ∀ (a : Act) (w : World), a.tmps.size = a0.tmps.size → (∀ t, noDst ops t = true → a.tmps[t]? = a0.tmps[t]?) → (∀ (j : Nat) (oj : Oper) (t : Nat), ops[j]? = some oj → oj.dst = some t → hasDep ops j i = true → a.tmps[t]? = a0.tmps[t]?) →
      (∀ e ∈ o.after, Region.binds .any e = true → ∀ (p : Oper) (d : Nat), ops[e.on]? = some p → p.dst = some d → ∃ v, a.tmps[d]? = some v ∧ Good e.on v w) → ∀ d : Nat → Bool, d i = false → (∀ e ∈ o.after, Region.binds .any e = true → d e.on = true) → J d w →
      o.wp P a w (fun a' w' => ∃ v, a' = a.put o.dst v ∧ Good i v w' ∧ J (fun j => d j || j == i) w' ∧ S i w w') Q)
    (fin : ∀ (a : Act) (w : World), a.defers = a0.defers → a.tmps.size = a0.tmps.size → (∀ t, noDst ops t = true → a.tmps[t]? = a0.tmps[t]?) →
      (∀ (i : Nat) (o : Oper) (d : Nat), ops[i]? = some o → o.dst = some d → ∃ v, a.tmps[d]? = some v ∧ Good i v w) → (∀ d : Nat → Bool, (∀ i, i < ops.size → d i = true) → J d w → Q .normal a w)) :
    (Code.region id ops true).wp P Q a0 w0 := by
  refine wp_region_any hm ?_
  refine wpAny_inv hb hd Good J S stable step fin ops.size (Array.replicate ops.size false) a0 _ (by simp [Array.countP_replicate]) ⟨rfl, rfl, fun _ _ => rfl, ?_, ?_, by simp, fun _ _ _ _ _ _ => rfl, ?_⟩
  rotate_left
  · have e : (fun j => (Array.replicate ops.size false).getD j false) = fun _ => false := by
      funext j; simp only [Array.getD_eq_getD_getElem?, Array.getElem?_replicate]; split <;> rfl
    rw [e]; exact start
  · intro i o ho hl
    simp only [Array.getD_eq_getD_getElem?, Array.getElem?_replicate] at hl
    split at hl <;> simp at hl
  intro i o d ho hl
  simp only [Array.getD_eq_getD_getElem?, Array.getElem?_replicate] at hl
  split at hl <;> simp at hl

theorem wp_of_run {o : Oper} {a : Act} {w w' : World} {v : Value} {next : Act → World → Prop} (h : (execOp a.eval o).run P w = .ok (.value v) w') (hn : next (a.put o.dst v) w') : o.wp P a w next Q := by
  unfold Oper.wp; rw [h]; exact hn

theorem wp_of_call {o : Oper} {a : Act} {w w' : World} {f : FuncId} {args : Array Value} {next : Act → World → Prop} (h : (execOp a.eval o).run P w = .ok (.enter f args) w')
    (hc : Calls P f args w' fun e w'' => ∃ v, e = .returned v ∧ next (a.put o.dst v) w'') : o.wp P a w next Q := by
  unfold Oper.wp; rw [h]
  refine hc.mono fun e w'' he => ?_
  obtain ⟨v, rfl, hn⟩ := he
  exact hn

/-- The same law, the operations' slots as the walk reads them. -/
theorem wp_region_inv' {id : Nat} {a0 : Act} {w0 : World} (hm : P.follows .mixedOrders = true) (hb : backOk ops = true) (hd : dstOk a0.tmps.size ops = true)
    (Good : Nat → Value → World → Prop) (J : (Nat → Bool) → World → Prop) (S : Nat → World → World → Prop)
    (stable : ∀ i j v w w', i ≠ j → hasDep ops i j = false → Good i v w → S j w w' → Good i v w')
    (start : J (fun _ => false) w0.drew)
    (step : ∀ (i : Nat) (o : Oper), ops[i]? = some o → ∀ (a : Act) (w : World), (∀ t, noDst ops t = true → a.eval (.tmp t) = a0.eval (.tmp t)) → (∀ j t, (ops[j]?).bind (·.dst) = some t → hasDep ops j i = true → a.eval (.tmp t) = a0.eval (.tmp t)) →
      (∀ j d, (o.after.any fun e => e.on == j && Region.binds .any e) = true → (ops[j]?).bind (·.dst) = some d → Good j (a.eval (.tmp d)) w) → ∀ d : Nat → Bool, d i = false → (∀ j, (o.after.any fun e => e.on == j && Region.binds .any e) = true → d j = true) → J d w →
      o.wp P a w (fun a' w' => ∃ v, a' = a.put o.dst v ∧ Good i v w' ∧ J (fun j => d j || j == i) w' ∧ S i w w') Q)
    (fin : ∀ (a : Act) (w : World), a.defers = a0.defers → a.tmps.size = a0.tmps.size → (∀ t, noDst ops t = true → a.eval (.tmp t) = a0.eval (.tmp t)) →
      (∀ j d, (ops[j]?).bind (·.dst) = some d → Good j (a.eval (.tmp d)) w) → (∀ d : Nat → Bool, (∀ i, i < ops.size → d i = true) → J d w → Q .normal a w)) :
    (Code.region id ops true).wp P Q a0 w0 := by
  have ev : ∀ (a : Act), (∀ t, noDst ops t = true → a.tmps[t]? = a0.tmps[t]?) → ∀ t, noDst ops t = true → a.eval (.tmp t) = a0.eval (.tmp t) := by
    intro a h t ht
    simp only [Act.eval, Array.getD_eq_getD_getElem?, h t ht]
  refine wp_region_inv hm hb hd Good J S stable start (fun i o ho a w hs hold hlate hdep d hdi hdd hJ => ?_) (fun a w hdf hs hold hgood d hall hJ => ?_)
  · refine step i o ho a w (ev a hold) (fun j t hjt hdep => ?_) (fun j d hj hjd => ?_) d hdi (fun j hj => ?_) hJ
    · obtain ⟨oj, hoj, hjt⟩ := Option.bind_eq_some_iff.1 hjt
      simp only [Act.eval, Array.getD_eq_getD_getElem?, hlate j oj t hoj hjt hdep]
    rotate_left
    · rw [Array.any_eq_true'] at hj
      obtain ⟨e, he, hj⟩ := hj
      simp only [Bool.and_eq_true, beq_iff_eq] at hj
      obtain ⟨rfl, hbd⟩ := hj
      exact hdd e he hbd
    rw [Array.any_eq_true'] at hj
    obtain ⟨e, he, hj⟩ := hj
    simp only [Bool.and_eq_true, beq_iff_eq] at hj
    obtain ⟨rfl, hbd⟩ := hj
    obtain ⟨p, hp, hpd⟩ := Option.bind_eq_some_iff.1 hjd
    obtain ⟨v, hv, hg⟩ := hdep e he hbd p d hp hpd
    simpa only [Act.eval, Array.getD_eq_getD_getElem?, hv, Option.getD_some] using hg
  · refine fin a w hdf hs (ev a hold) (fun j d hjd => ?_) d hall hJ
    obtain ⟨p, hp, hpd⟩ := Option.bind_eq_some_iff.1 hjd
    obtain ⟨v, hv, hg⟩ := hgood j p d hp hpd
    simpa only [Act.eval, Array.getD_eq_getD_getElem?, hv, Option.getD_some] using hg

def dsts (ops : Array Oper) : List Nat := ops.toList.filterMap (·.dst)

theorem foldl_size (f : Nat → Value) : ∀ (ds : List Nat) (t : Array Value), (ds.foldl (fun t d => t.setIfInBounds d (f d)) t).size = t.size
  | [], t => rfl
  | d :: ds, t => by rw [List.foldl_cons, foldl_size f ds]; simp

theorem foldl_get (f : Nat → Value) : ∀ (ds : List Nat) (t : Array Value) (i : Nat), i < t.size → (ds.foldl (fun t d => t.setIfInBounds d (f d)) t)[i]? = if i ∈ ds then some (f i) else t[i]?
  | [], t, i, h => by simp
  | d :: ds, t, i, h => by
    rw [List.foldl_cons, foldl_get f ds _ i (by simpa using h)]
    by_cases h1 : i ∈ ds
    · simp [h1]
    · by_cases h2 : i = d
      · subst h2; simp [h1, h]
      · simp [h1, h2, Array.getElem?_setIfInBounds_ne (Ne.symm h2)]

theorem mem_dsts {t : Nat} (h : t ∉ dsts ops) : noDst ops t = true := by
  unfold noDst
  rw [Array.all_eq_true_iff_forall_mem]
  intro o ho
  rw [bne_iff_ne]
  intro e
  exact h (List.mem_filterMap.2 ⟨o, by simpa using ho, e⟩)

/-- The law, its end in the walk's own form: the old frame with the region's slots laid anew. -/
theorem wp_region_put {id : Nat} {a0 : Act} {w0 : World} (hm : P.follows .mixedOrders = true) (hb : backOk ops = true) (hd : dstOk a0.tmps.size ops = true)
    (Good : Nat → Value → World → Prop) (J : (Nat → Bool) → World → Prop) (S : Nat → World → World → Prop)
    (stable : ∀ i j v w w', i ≠ j → hasDep ops i j = false → Good i v w → S j w w' → Good i v w')
    (start : J (fun _ => false) w0.drew)
    (step : ∀ (i : Nat) (o : Oper), ops[i]? = some o → ∀ (a : Act) (w : World), (∀ t, noDst ops t = true → a.eval (.tmp t) = a0.eval (.tmp t)) → (∀ j t, (ops[j]?).bind (·.dst) = some t → hasDep ops j i = true → a.eval (.tmp t) = a0.eval (.tmp t)) →
      (∀ j d, (o.after.any fun e => e.on == j && Region.binds .any e) = true → (ops[j]?).bind (·.dst) = some d → Good j (a.eval (.tmp d)) w) → ∀ d : Nat → Bool, d i = false → (∀ j, (o.after.any fun e => e.on == j && Region.binds .any e) = true → d j = true) → J d w →
      o.wp P a w (fun a' w' => ∃ v, a' = a.put o.dst v ∧ Good i v w' ∧ J (fun j => d j || j == i) w' ∧ S i w w') Q)
    (fin : ∀ (f : Nat → Value) (w : World) (d : Nat → Bool), (∀ j d, (ops[j]?).bind (·.dst) = some d → Good j (f d) w) → (∀ i, i < ops.size → d i = true) → J d w →
      Q .normal ⟨(dsts ops).foldl (fun t d => t.setIfInBounds d (f d)) a0.tmps, a0.defers⟩ w) :
    (Code.region id ops true).wp P Q a0 w0 := by
  refine wp_region_inv' hm hb hd Good J S stable start step fun a w hdf hs hold hgood d hall hJ => ?_
  have key : a = ⟨(dsts ops).foldl (fun t d => t.setIfInBounds d (a.eval (.tmp d))) a0.tmps, a0.defers⟩ := by
    obtain ⟨tmps, defers⟩ := a
    simp only at hdf hs
    subst hdf
    congr 1
    apply Array.ext_getElem?
    intro i
    by_cases hi : i < a0.tmps.size
    · rw [foldl_get _ _ _ _ hi]
      by_cases hmem : i ∈ dsts ops
      · rw [if_pos hmem]
        simp [Act.eval, hs, hi]
      · rw [if_neg hmem]
        have := hold i (mem_dsts hmem)
        simp only [Act.eval, Array.getD_eq_getD_getElem?] at this
        rw [Array.getElem?_eq_getElem (by omega), Array.getElem?_eq_getElem hi] at this ⊢
        simpa using this
    · rw [Array.getElem?_eq_none (by omega), Array.getElem?_eq_none (by rw [foldl_size]; omega)]
  rw [key]
  exact fin (fun d => a.eval (.tmp d)) w d hgood hall hJ
end
end Go.RegInv
