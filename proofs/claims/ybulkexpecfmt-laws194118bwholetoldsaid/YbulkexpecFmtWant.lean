/- LawS194118BWhole: the plain law: what Joined leaves and what the law wants. -/
import Derived.Test.YbulkexpecFmtPlain
namespace Go.Proofs.YbulkexpecFmt
open Go.RowKit Go.PK Go.Shelf Go.Sort
set_option linter.unusedVariables false
set_option linter.unusedSimpArgs false

abbrev FF (l : List EX) : List EX := l.foldl addL []
/-- Texts told apart, no id empty. -/
structure DD (D : List EX) : Prop where
  pw : D.Pairwise fun p q => textOf p.1 p.2 ≠ textOf q.1 q.2
  ids : ∀ p ∈ D, p.1 ≠ noStr
theorem DD.nil : DD [] := ⟨List.Pairwise.nil, fun p h => by simp at h⟩
theorem DD.add {D : List EX} (h : DD D) (e : EX) : DD (addL D e) := by
  unfold addL
  split
  · exact h
  · rename_i he
    split
    · exact h
    · rename_i hd
      refine ⟨List.pairwise_append.2 ⟨h.pw, List.pairwise_singleton _ _, fun p hp q hq heq => hd ?_⟩, fun p hp => ?_⟩
      · rw [List.mem_singleton.1 hq] at heq
        exact List.any_eq_true.2 ⟨p, hp, bb_eq heq⟩
      · rcases List.mem_append.1 hp with hp | hp
        · exact h.ids p hp
        · rw [List.mem_singleton.1 hp]; exact he
theorem DD.fold {D : List EX} (h : DD D) (l : List EX) : DD (l.foldl addL D) := by
  induction l generalizing D with
  | nil => exact h
  | cons a l ih => exact ih (h.add a)
theorem DD.perm {D D' : List EX} (h : DD D) (hp : D.Perm D') : DD D' := ⟨(hp.pairwise_iff (fun {x y} hxy => fun e => hxy e.symm)).1 h.pw, fun p hm => h.ids p (hp.mem_iff.2 hm)⟩
theorem DD.inj {D : List EX} (h : DD D) : ∀ x ∈ D, ∀ y ∈ D, textOf x.1 x.2 = textOf y.1 y.2 → x = y := by
  intro x hx y hy he
  obtain ⟨i, hi, rfl⟩ := List.getElem_of_mem hx
  obtain ⟨j, hj, rfl⟩ := List.getElem_of_mem hy
  have hp := List.pairwise_iff_getElem.1 h.pw
  rcases Nat.lt_trichotomy i j with hij | hij | hij
  · exact absurd he (hp i j hi hj hij)
  · subst hij; rfl
  · exact absurd he.symm (hp j i hj hi hij)
/-- Such a list is its own joined list. -/
theorem DD.fix_from : ∀ {l D : List EX}, DD (D ++ l) → l.foldl addL D = D ++ l
  | [], D, _ => by simp
  | e :: l, D, h => by
    have he : addL D e = D ++ [e] := by
      unfold addL
      rw [if_neg (h.ids e (by simp)), if_neg]
      rw [List.any_eq_true]
      rintro ⟨p, hp, hq⟩
      have := (List.pairwise_append.1 h.pw).2.2 p hp e (by simp)
      rw [bb_ne this] at hq
      cases hq
    rw [List.foldl_cons, he, DD.fix_from (by simpa using h)]
    simp
theorem DD.fix {l : List EX} (h : DD l) : FF l = l := by
  have := DD.fix_from (l := l) (D := []) (by simpa using h)
  simpa using this

theorem JoinOut.perm {D D' : List EX} {y : XE} (h : JoinOut D y) (hp : D.Perm D') : JoinOut D' y := by
  rcases h with ⟨rfl, rfl⟩ | ⟨e0, rfl, rfl⟩ | ⟨h1, l, rfl, h2, h3⟩
  · exact .inl ⟨List.nil_perm.1 hp, rfl⟩
  · exact .inr (.inl ⟨e0, List.singleton_perm.1 hp |>.symm, rfl⟩)
  · exact .inr (.inr ⟨by rw [← hp.length_eq]; exact h1, l, rfl, h2.trans hp, h3⟩)
theorem JoinOut.unique {D : List EX} {y z : XE} (hD : DD D) (h : JoinOut D y) (k : JoinOut D z) : y = z := by
  rcases h with ⟨rfl, rfl⟩ | ⟨e0, rfl, rfl⟩ | ⟨h1, l, rfl, h2, h3⟩
  · rcases k with ⟨_, rfl⟩ | ⟨e1, h4, rfl⟩ | ⟨h4, _⟩
    · rfl
    · cases h4
    · simp at h4
  · rcases k with ⟨h4, rfl⟩ | ⟨e1, h4, rfl⟩ | ⟨h4, _⟩
    · cases h4
    · cases h4; rfl
    · simp at h4
  · rcases k with ⟨rfl, rfl⟩ | ⟨e1, rfl, rfl⟩ | ⟨h4, l', rfl, h5, h6⟩
    · simp at h1
    · simp at h1
    · rw [srt_unique (h2.trans h5.symm) h3 h6 fun x hx y hy => hD.inj x (h2.mem_iff.1 hx) y (h2.mem_iff.1 hy)]

/-- What a group of expressions comes to. -/
def GX (g : List EX) (x : XE) : Prop := (∃ e, g = [e] ∧ x = .inl e) ∨ (2 ≤ g.length ∧ JoinOut (FF g) x)
theorem GX.unique {g : List EX} {x y : XE} (h : GX g x) (k : GX g y) : x = y := by
  rcases h with ⟨e, rfl, rfl⟩ | ⟨h1, h2⟩
  · rcases k with ⟨e', h3, rfl⟩ | ⟨h3, _⟩
    · cases h3; rfl
    · simp at h3
  · rcases k with ⟨e', rfl, rfl⟩ | ⟨_, h3⟩
    · simp at h1
    · exact h2.unique (DD.nil.fold g) h3
theorem GX.step {g : List EX} {x y : XE} {e : EX} (h : GX g x) (k : JoinOut (dd x e) y) : GX (g ++ [e]) y := by
  have hg : 1 ≤ g.length := by
    rcases h with ⟨e, rfl, rfl⟩ | ⟨h1, h2⟩
    · simp
    · omega
  refine .inr ⟨by simp; omega, ?_⟩
  have hp : (FF (flat x)).Perm (FF g) := by
    rcases h with ⟨e, rfl, rfl⟩ | ⟨h1, h2⟩
    · exact List.Perm.refl _
    · have hd : DD (FF g) := DD.nil.fold g
      rcases h2 with ⟨h3, rfl⟩ | ⟨e0, h3, rfl⟩ | ⟨_, l, rfl, h3, _⟩
      · rw [h3]
        show (addL [] (noStr, noStr)).Perm []
        unfold addL
        rw [if_pos rfl]
      · rw [h3] at hd ⊢
        rw [show flat (.inl e0) = [e0] from rfl, hd.fix]
      · show (FF l).Perm _
        rw [(hd.perm h3.symm).fix]
        exact h3
  unfold dd at k
  rw [List.foldl_append] at k
  show JoinOut ((g ++ [e]).foldl addL []) y
  rw [List.foldl_append]
  exact k.perm (addL_perm hp e)

/-- The group of tag k among the first m. -/
def gr (T : Nat → IT) (m k : Nat) : List EX := (T k).ex :: ((List.range m).filter fun j => decide (k < j ∧ (T j).c = (T k).c ∧ 0 < (T k).c)).map fun j => (T j).ex
theorem gr_start (T : Nat → IT) (k : Nat) {m : Nat} (hm : m ≤ k + 1) : gr T m k = [(T k).ex] := by
  unfold gr
  rw [List.filter_eq_nil_iff.2]
  · rfl
  · intro j hj
    have := List.mem_range.1 hj
    rw [decide_eq_true_iff]
    omega
theorem gr_succ (T : Nat → IT) (m k : Nat) : gr T (m + 1) k = if k < m ∧ (T m).c = (T k).c ∧ 0 < (T k).c then gr T m k ++ [(T m).ex] else gr T m k := by
  unfold gr
  rw [List.range_succ, List.filter_append]
  split
  · rename_i h
    rw [List.filter_cons_of_pos (by rw [decide_eq_true_iff]; exact h)]
    simp
  · rename_i h
    rw [List.filter_cons_of_neg (by rw [decide_eq_true_iff]; exact h)]
    simp
theorem gr_len (T : Nat → IT) : ∀ (m k : Nat), (gr T m k).length ≤ 1 + m
  | 0, k => by rw [gr_start T k (by omega)]; simp
  | m + 1, k => by
    have := gr_len T m k
    rw [gr_succ]
    split <;> simp <;> omega
theorem gr_short (T : Nat → IT) (m k : Nat) : Short (gr T m k) := by
  intro p hp
  unfold gr at hp
  rcases List.mem_cons.1 hp with rfl | hp
  · exact ⟨idT_size _, excT_size _⟩
  · obtain ⟨j, _, rfl⟩ := List.mem_map.1 hp
    exact ⟨idT_size _, excT_size _⟩
/-- Is c among the comments of the first k tags? -/
def seenB (T : Nat → IT) (c : Int) : Nat → Bool
  | 0 => false
  | k + 1 => seenB T c k || (T k).c == c
theorem seenB_iff (T : Nat → IT) (c : Int) : ∀ k, seenB T c k = true ↔ ∃ j, j < k ∧ (T j).c = c
  | 0 => ⟨fun h => (by cases h), fun ⟨j, h, _⟩ => by omega⟩
  | k + 1 => by
    rw [seenB, Bool.or_eq_true, seenB_iff T c k, beq_iff_eq]
    constructor
    · rintro (⟨j, h1, h2⟩ | h)
      · exact ⟨j, by omega, h2⟩
      · exact ⟨k, by omega, h⟩
    · rintro ⟨j, h1, h2⟩
      by_cases e : j = k
      · subst e; exact .inr h2
      · exact .inl ⟨j, by omega, h2⟩
/-- Tag k opens a group, or stands alone. -/
def kept (T : Nat → IT) (k : Nat) : Bool := !(decide (0 < (T k).c) && seenB T (T k).c k)
def ks (T : Nat → IT) (m : Nat) : List Nat := (List.range m).filter (kept T)
theorem ks_yes {T : Nat → IT} {m : Nat} (h : kept T m = true) : ks T (m + 1) = ks T m ++ [m] := by
  unfold ks
  rw [List.range_succ, List.filter_append, List.filter_cons_of_pos h]
  rfl
theorem ks_no {T : Nat → IT} {m : Nat} (h : kept T m = false) : ks T (m + 1) = ks T m := by
  unfold ks
  rw [List.range_succ, List.filter_append, List.filter_cons_of_neg (by rw [h]; decide)]
  simp
theorem ks_lt {T : Nat → IT} {m k : Nat} (h : k ∈ ks T m) : k < m ∧ kept T k = true := by
  have := List.mem_filter.1 h
  exact ⟨List.mem_range.1 this.1, this.2⟩
theorem ks_len (T : Nat → IT) (m : Nat) : (ks T m).length ≤ m := by
  have := List.length_filter_le (kept T) (List.range m)
  rw [List.length_range] at this
  exact this
theorem ks_pw (T : Nat → IT) (m : Nat) : (ks T m).Pairwise (· < ·) := List.Pairwise.filter _ List.pairwise_lt_range
/-- The first of a comment is kept. -/
theorem first_kept {T : Nat → IT} {c : Int} : ∀ {k : Nat}, seenB T c k = true → ∃ j, j < k ∧ (T j).c = c ∧ kept T j = true
  | 0, h => by cases h
  | k + 1, h => by
    by_cases hs : seenB T c k = true
    · obtain ⟨j, h1, h2⟩ := first_kept hs
      exact ⟨j, by omega, h2⟩
    · rw [seenB, Bool.or_eq_true, beq_iff_eq] at h
      rcases h with h | h
      · exact absurd h hs
      · refine ⟨k, by omega, h, ?_⟩
        unfold kept
        rw [h]
        simp [hs]
theorem kept_once {T : Nat → IT} {j k : Nat} (hjk : j < k) (hk : kept T k = true) (hc : (T j).c = (T k).c) (h0 : 0 < (T k).c) : False := by
  have := (seenB_iff T (T k).c k).2 ⟨j, hjk, hc⟩
  unfold kept at hk
  rw [this] at hk
  simp [h0] at hk

structure TagOf (T : Nat → IT) (m k : Nat) (t : TG) : Prop where
  s : t.s = (T k).s
  e : t.e = (T k).e
  c : t.c = (T k).c
  x : GX (gr T m k) t.x
theorem TagOf.unique {T : Nat → IT} {m k : Nat} {t u : TG} (h : TagOf T m k t) (h' : TagOf T m k u) : t = u := by
  obtain ⟨a1, a2, a3, a4⟩ := h
  obtain ⟨b1, b2, b3, b4⟩ := h'
  obtain ⟨ts, te, tx, tc⟩ := t
  obtain ⟨us, ue, ux, uc⟩ := u
  simp only at a1 a2 a3 a4 b1 b2 b3 b4
  have := a4.unique b4
  subst this
  subst a1 a2 a3 b1 b2 b3
  rfl
/-- The tags wanted of the first k, the groups among the first m. -/
structure Want (T : Nat → IT) (m k : Nat) (ts : List TG) : Prop where
  len : ts.length = (ks T k).length
  at_ : ∀ i, (h : i < (ks T k).length) → (h' : i < ts.length) → TagOf T m (ks T k)[i] ts[i]
theorem Want.unique {T : Nat → IT} {m k : Nat} {ts us : List TG} (h : Want T m k ts) (h' : Want T m k us) : ts = us := by
  apply List.ext_getElem (by rw [h.len, h'.len])
  intro i h1 h2
  have h3 : i < (ks T k).length := by rw [← h.len]; exact h1
  exact (h.at_ i h3 h1).unique (h'.at_ i h3 h2)
theorem Want.nil (T : Nat → IT) (m : Nat) : Want T m 0 [] := ⟨rfl, fun i h => absurd h (by simp [ks])⟩
theorem Want.skip {T : Nat → IT} {m k : Nat} {ts : List TG} (h : Want T m k ts) (hk : kept T k = false) : Want T m (k + 1) ts := by
  obtain ⟨h1, h2⟩ := h
  constructor
  · rw [ks_no hk]; exact h1
  · intro i hi hi'
    simp only [ks_no hk]
    exact h2 i (by rw [ks_no hk] at hi; exact hi) hi'
theorem Want.push {T : Nat → IT} {m k : Nat} {ts : List TG} (h : Want T m k ts) (hk : kept T k = true) {t : TG} (ht : TagOf T m k t) : Want T m (k + 1) (ts ++ [t]) := by
  obtain ⟨h1, h2⟩ := h
  constructor
  · rw [ks_yes hk]; simp [h1]
  · intro i hi hi'
    simp only [ks_yes hk]
    by_cases hlt : i < ts.length
    · rw [List.getElem_append_left (by omega), List.getElem_append_left hlt]
      exact h2 i (by omega) hlt
    · have : i = ts.length := by simp at hi'; omega
      subst this
      rw [List.getElem_append_right (by omega), List.getElem_append_right (by omega)]
      simpa using ht
/-- Groups that do not grow. -/
theorem Want.more {T : Nat → IT} {m k : Nat} {ts : List TG} (h : Want T m k ts) (hg : ∀ j ∈ ks T k, gr T (m + 1) j = gr T m j) : Want T (m + 1) k ts :=
  ⟨h.len, fun i h1 h2 => ⟨(h.at_ i h1 h2).s, (h.at_ i h1 h2).e, (h.at_ i h1 h2).c, by rw [hg _ (List.getElem_mem h1)]; exact (h.at_ i h1 h2).x⟩⟩
/-- Joined comes to what is wanted. -/
theorem JRun.want {T : Nat → IT} : ∀ {m : Nat} {acc : List TG}, JRun T m acc → Want T m m acc
  | 0, acc, h => by
    have : acc = [] := h
    subst this
    exact Want.nil T 0
  | m + 1, acc', h => by
    obtain ⟨acc, h1, h2⟩ := h
    have ih := JRun.want h1
    rcases h2 with ⟨rfl, hno⟩ | ⟨i, y, h0, hi, hic, hy, rfl⟩
    · have hk : kept T m = true := by
        cases hkk : kept T m with
        | true => rfl
        | false =>
          exfalso
          unfold kept at hkk
          simp only [Bool.not_eq_false', Bool.and_eq_true, decide_eq_true_eq] at hkk
          obtain ⟨j, hj1, hj2, hj3⟩ := first_kept hkk.2
          have hjm : j ∈ ks T m := List.mem_filter.2 ⟨List.mem_range.2 hj1, hj3⟩
          obtain ⟨q, hq, hqe⟩ := List.getElem_of_mem hjm
          have hq' : q < acc.length := by rw [ih.len]; exact hq
          refine hno hkk.1 acc[q] (List.getElem_mem hq') ?_
          rw [(ih.at_ q hq hq').c, hqe, hj2]
      refine Want.push (ih.more fun j hj => ?_) hk ⟨rfl, rfl, rfl, ?_⟩
      · rw [gr_succ, if_neg]
        rintro ⟨hjm, hcc, h0⟩
        obtain ⟨q, hq, hqe⟩ := List.getElem_of_mem hj
        have hq' : q < acc.length := by rw [ih.len]; exact hq
        refine hno (by omega) acc[q] (List.getElem_mem hq') ?_
        rw [(ih.at_ q hq hq').c, hqe, hcc]
      · rw [gr_start T m (by omega)]
        exact .inl ⟨_, rfl, rfl⟩
    · have hi' : i < (ks T m).length := by rw [← ih.len]; exact hi
      have hti := ih.at_ i hi' hi
      have hck : (T (ks T m)[i]).c = (T m).c := by rw [← hti.c]; exact hic
      have hkm := ks_lt (List.getElem_mem hi')
      have hk : kept T m = false := by
        cases hkk : kept T m with
        | false => rfl
        | true => exact (kept_once hkm.1 hkk hck h0).elim
      refine Want.skip (k := m) ⟨by rw [List.length_set]; exact ih.len, fun q hq hq' => ?_⟩ hk
      have hq2 : q < acc.length := by simpa using hq'
      have htq := ih.at_ q hq hq2
      by_cases hqi : i = q
      · subst hqi
        rw [List.getElem_set_self]
        refine ⟨htq.s, htq.e, htq.c, ?_⟩
        rw [gr_succ, if_pos ⟨hkm.1, hck.symm, by rw [hck]; exact h0⟩]
        exact htq.x.step hy
      · rw [List.getElem_set_ne hqi]
        refine ⟨htq.s, htq.e, htq.c, ?_⟩
        rw [gr_succ, if_neg]
        · exact htq.x
        · rintro ⟨a1, a2, a3⟩
          have hpw := List.pairwise_iff_getElem.1 (ks_pw T m)
          have hkq := ks_lt (List.getElem_mem hq)
          rcases Nat.lt_or_gt_of_ne hqi with hlt | hlt
          · exact kept_once (hpw i q hi' hq hlt) hkq.2 (by rw [hck, a2]) a3
          · exact kept_once (hpw q i hq hi' hlt) hkm.2 (by rw [hck, a2]) (by rw [hck]; exact h0)
end Go.Proofs.YbulkexpecFmt
