/- Maps with strings for keys as lists of pairs: look-up, store, delete, len as run equations. No word of the program. -/
import Derived.Maps.Own
import Derived.ChangeMaps5
import Derived.MapKept
namespace Go.SM

abbrev AL := List (ByteArray × Value)
def look : AL → ByteArray → Option Value
  | [], _ => none
  | p :: A, k => if p.1 = k then some p.2 else look A k
def put : AL → ByteArray → Value → AL
  | [], k, v => [(k, v)]
  | p :: A, k, v => if p.1 = k then (k, v) :: A else p :: put A k v
def del : AL → ByteArray → AL
  | [], _ => []
  | p :: A, k => if p.1 = k then A else p :: del A k
def fidx : AL → ByteArray → Option (Nat × Value)
  | [], _ => none
  | p :: A, k => if p.1 = k then some (0, p.2) else (fidx A k).map fun q => (q.1 + 1, q.2)

def ent (e : MapEntry) : Value × Value := (e.key, e.val)
def enc (p : ByteArray × Value) : Value × Value := (.string p.1, p.2)
def StrMap (w : World) (b : Nat) (A : AL) : Prop := ∃ es clock, w.heap[b]? = some (.map es clock) ∧ es.toList.map ent = A.map enc

theorem look_fidx (A : AL) (k : ByteArray) : look A k = (fidx A k).map (·.2) := by
  induction A with
  | nil => rfl
  | cons p A ih =>
    by_cases h : p.1 = k
    · simp [look, fidx, h]
    · simp only [look, fidx, if_neg h, ih]
      cases fidx A k <;> rfl

theorem fidx_key : ∀ (A : AL) (k : ByteArray) (j : Nat) (v : Value), fidx A k = some (j, v) → A[j]? = some (k, v)
  | [], _, _, _, h => by cases h
  | p :: A, k, j, v, h => by
    by_cases e : p.1 = k
    · simp only [fidx, if_pos e, Option.some.injEq, Prod.mk.injEq] at h
      obtain ⟨rfl, rfl⟩ := h
      subst e
      rfl
    · simp only [fidx, if_neg e, Option.map_eq_some_iff] at h
      obtain ⟨⟨j', v'⟩, h1, h2⟩ := h
      simp only [Prod.mk.injEq] at h2
      obtain ⟨rfl, rfl⟩ := h2
      simpa using fidx_key A k j' v' h1

theorem find_at (k : ByteArray) : ∀ (l : List MapEntry) (A : AL) (i : Nat), l.map ent = A.map enc → Instr.findNow .string (.string k) l i = some ((fidx A k).map fun q => (i + q.1, q.2))
  | [], A, i, h => by
    cases A with
    | nil => rfl
    | cons p A => simp at h
  | e :: l, A, i, h => by
    cases A with
    | nil => simp at h
    | cons p A =>
      simp only [List.map_cons, List.cons.injEq, ent, enc, Prod.mk.injEq] at h
      obtain ⟨⟨h1, h2⟩, h3⟩ := h
      by_cases hk : p.1 = k
      · have : (k == p.1) = true := (MapKept.bytes_beq _ _).2 hk.symm
        simp only [Instr.findNow, Instr.sameNow, h1, h2, this, fidx, if_pos hk]
        rfl
      · have : (k == p.1) = false := by
          cases hh : (k == p.1) with
          | false => rfl
          | true => exact absurd ((MapKept.bytes_beq _ _).1 hh).symm hk
        have ih := find_at k l A (i + 1) h3
        simp only [Instr.findNow, Instr.sameNow, h1, this, fidx, if_neg hk]
        rw [ih]
        cases fidx A k with
        | none => rfl
        | some q => simp; omega

theorem put_none : ∀ (A : AL) (k : ByteArray) (v : Value), fidx A k = none → put A k v = A ++ [(k, v)]
  | [], _, _, _ => rfl
  | p :: A, k, v, h => by
    by_cases e : p.1 = k
    · simp [fidx, e] at h
    · simp only [fidx, if_neg e, Option.map_eq_none_iff] at h
      simp only [put, if_neg e, put_none A k v h, List.cons_append]

theorem put_some : ∀ (A : AL) (k : ByteArray) (v : Value) (j : Nat) (u : Value), fidx A k = some (j, u) → put A k v = A.set j (k, v)
  | [], _, _, _, _, h => by cases h
  | p :: A, k, v, j, u, h => by
    by_cases e : p.1 = k
    · simp only [fidx, if_pos e, Option.some.injEq, Prod.mk.injEq] at h
      obtain ⟨rfl, rfl⟩ := h
      simp [put, e]
    · simp only [fidx, if_neg e, Option.map_eq_some_iff] at h
      obtain ⟨⟨j', v'⟩, h1, h2⟩ := h
      simp only [Prod.mk.injEq] at h2
      obtain ⟨rfl, rfl⟩ := h2
      simp only [put, if_neg e, put_some A k v j' v' h1, List.set_cons_succ]

theorem del_none : ∀ (A : AL) (k : ByteArray), fidx A k = none → del A k = A
  | [], _, _ => rfl
  | p :: A, k, h => by
    by_cases e : p.1 = k
    · simp [fidx, e] at h
    · simp only [fidx, if_neg e, Option.map_eq_none_iff] at h
      simp only [del, if_neg e, del_none A k h]

theorem del_some : ∀ (A : AL) (k : ByteArray) (j : Nat) (u : Value), fidx A k = some (j, u) → del A k = A.eraseIdx j
  | [], _, _, _, h => by cases h
  | p :: A, k, j, u, h => by
    by_cases e : p.1 = k
    · simp only [fidx, if_pos e, Option.some.injEq, Prod.mk.injEq] at h
      obtain ⟨rfl, rfl⟩ := h
      simp [del, e]
    · simp only [fidx, if_neg e, Option.map_eq_some_iff] at h
      obtain ⟨⟨j', v'⟩, h1, h2⟩ := h
      simp only [Prod.mk.injEq] at h2
      obtain ⟨rfl, rfl⟩ := h2
      simp only [del, if_neg e, del_some A k j' v' h1, List.eraseIdx_cons_succ]

theorem map_erase {α β : Type} (f : α → β) : ∀ (l : List α) (j : Nat), (l.map f).eraseIdx j = (l.eraseIdx j).map f
  | [], _ => rfl
  | a :: l, 0 => rfl
  | a :: l, j + 1 => by simp [map_erase f l j]

theorem grown_set {w : World} {b : Nat} {es es' : Array MapEntry} {clock clock' : Nat} (hb : w.heap[b]? = some (.map es clock)) : w.grownBy (ChangeMaps.setBlock w b (.map es' clock')) (some b) := by
  refine ⟨rfl, rfl, rfl, ?_, ?_⟩
  · simp [ChangeMaps.setBlock]
  · intro i hi hne
    exact ChangeMaps.heap_setBlock_other hb _ (fun e => hne (by rw [e]))

theorem StrMap.kept {w w' : World} {b : Nat} {A : AL} (h : StrMap w b A) (hk : ∀ o, w.heap[b]? = some o → w'.heap[b]? = some o) : StrMap w' b A := by
  obtain ⟨es, c, h1, h2⟩ := h
  exact ⟨es, c, hk _ h1, h2⟩
theorem StrMap.made (w : World) : StrMap (w.alloc (.map #[] 0)) w.heap.size [] := ⟨#[], 0, (MapKept.heap_alloc w _).1, rfl⟩
theorem StrMap.lt {w : World} {b : Nat} {A : AL} (h : StrMap w b A) : b < w.heap.size := by
  obtain ⟨es, c, h1, _⟩ := h
  exact (Array.getElem?_eq_some_iff.1 h1).1
theorem StrMap.ne {w : World} {b g : Nat} {A : AL} {cs : Array Value} {t : TypeId} {m : Nat × Nat} (h : StrMap w b A) (hg : w.heap[g]? = some (.cells cs t m)) : g ≠ b := by
  rintro rfl
  obtain ⟨es, c, h1, _⟩ := h
  rw [h1] at hg
  cases hg

theorem StrMap.len {P : Program} {t k e : TypeId} (ht : P.underlying t = some (.map k e)) {w : World} {b : Nat} {A : AL} {ty : TypeId} (h : StrMap w b A) : (Builtin.len_ #[t] ty #[.map (some b)]).run P w = .ok (goInt A.length) w := by
  obtain ⟨es, c, h1, h2⟩ := h
  have : es.size = A.length := by have := congrArg List.length h2; simpa using this
  simp [Builtin.len_, run_underlying ht, MapKept.run_getObj_map h1, Result.andThen, this]

theorem StrMap.find {P : Program} {t k e : TypeId} (ht : P.underlying t = some (.map k e)) (hk : P.underlying k = some .string) {w : World} {b : Nat} {A : AL} {z : Value} (hz : (zeroValue e).run P w = .ok z w) (h : StrMap w b A) (s : ByteArray) (c : Bool) :
    (Instr.lookup t (.map (some b)) (.string s) c).run P w = .ok (if c then .tuple #[(look A s).getD z, .bool (look A s).isSome] else (look A s).getD z) w := by
  obtain ⟨es, cl, h1, h2⟩ := h
  have hf := find_at s es.toList A 0 h2
  rw [look_fidx]
  cases hh : fidx A s with
  | none =>
    rw [hh] at hf
    simp [Instr.lookup, run_underlying ht, MapKept.run_getObj_map h1, MapKept.run_checkKey hk (k := .string s) trivial, MapKept.run_findKey hk hf, hz, Result.andThen]
  | some q =>
    rw [hh] at hf
    simp [Instr.lookup, run_underlying ht, MapKept.run_getObj_map h1, MapKept.run_checkKey hk (k := .string s) trivial, MapKept.run_findKey hk hf, Result.andThen]

theorem StrMap.store {P : Program} {t k e : TypeId} (ht : P.underlying t = some (.map k e)) (hk : P.underlying k = some .string) {w : World} {b : Nat} {A : AL} (h : StrMap w b A) (s : ByteArray) (v : Value) :
    ∃ w', (Instr.mapUpdate t (.map (some b)) (.string s) v).run P w = .ok () w' ∧ StrMap w' b (put A s v) ∧ w.grownBy w' (some b) ∧ w'.heap.size = w.heap.size := by
  obtain ⟨es, cl, h1, h2⟩ := h
  have hf := find_at s es.toList A 0 h2
  cases hh : fidx A s with
  | none =>
    rw [hh] at hf
    refine ⟨_, ?_, ⟨es.push ⟨.string s, v, cl⟩, cl + 1, ChangeMaps.heap_setBlock_same h1 _, ?_⟩, grown_set h1, by simp [ChangeMaps.setBlock]⟩
    · simp [Instr.mapUpdate, run_underlying ht, MapKept.run_getObj_map h1, MapKept.run_checkKey hk (k := .string s) trivial, MapKept.run_findKey hk hf, MapKept.run_setObj_map _ h1, Result.andThen, ChangeMaps.setBlock]
    · rw [put_none A s v hh]
      simp [h2, ent, enc]
  | some q =>
    rw [hh] at hf
    obtain ⟨j, u⟩ := q
    have hkey := fidx_key A s j u hh
    have hj : j < A.length := (List.getElem?_eq_some_iff.1 hkey).1
    have hl : es.toList.length = A.length := by have := congrArg List.length h2; simpa using this
    have he : ∃ e0, es.toList[j]? = some e0 ∧ e0.key = .string s := by
      have : (es.toList.map ent)[j]? = (A.map enc)[j]? := by rw [h2]
      simp only [List.getElem?_map, hkey, Option.map_some, Option.map_eq_some_iff] at this
      obtain ⟨e0, h3, h4⟩ := this
      exact ⟨e0, h3, by have := congrArg Prod.fst h4; simpa [ent, enc] using this⟩
    obtain ⟨e0, h3, h4⟩ := he
    have h3' : es[j]? = some e0 := by simpa using h3
    have hst : ∀ w, (Instr.keyThatStays (.string s) (.string s)).run P w = .ok (.string s) w := fun w => by
      have : (s == s) = true := (MapKept.bytes_beq _ _).2 rfl
      simp [Instr.keyThatStays, Instr.sameBits, this]
    refine ⟨_, ?_, ⟨es.modify j (fun e => { e with key := .string s, val := v }), cl, ChangeMaps.heap_setBlock_same h1 _, ?_⟩, grown_set h1, by simp [ChangeMaps.setBlock]⟩
    · simp [Instr.mapUpdate, run_underlying ht, MapKept.run_getObj_map h1, MapKept.run_checkKey hk (k := .string s) trivial, MapKept.run_findKey hk hf, h3', h4, hst, MapKept.run_setObj_map _ h1, Result.andThen, ChangeMaps.setBlock]
    · rw [put_some A s v j u hh, List.map_set, ← h2]
      apply List.ext_getElem?
      intro i
      by_cases hi : i = j
      · subst hi
        have : i < es.size := by have := (Array.getElem?_eq_some_iff.1 h3').1; exact this
        simp [ent, enc, this]
      · simp [Ne.symm hi]

theorem StrMap.drop {P : Program} {t k e : TypeId} (ht : P.underlying t = some (.map k e)) (hk : P.underlying k = some .string) {w : World} {b : Nat} {A : AL} {ty : TypeId} (h : StrMap w b A) (s : ByteArray) :
    ∃ w', (Builtin.delete_ #[t, k] ty #[.map (some b), .string s]).run P w = .ok (.tuple #[]) w' ∧ StrMap w' b (del A s) ∧ w.grownBy w' (some b) ∧ w'.heap.size = w.heap.size := by
  obtain ⟨es, cl, h1, h2⟩ := h
  have hf := find_at s es.toList A 0 h2
  cases hh : fidx A s with
  | none =>
    rw [hh] at hf
    refine ⟨_, ?_, ⟨es, cl, ChangeMaps.heap_setBlock_same h1 _, ?_⟩, grown_set h1, by simp [ChangeMaps.setBlock]⟩
    · simp [Builtin.delete_, run_underlying ht, MapKept.run_getObj_map h1, MapKept.run_checkKey hk (k := .string s) trivial, MapKept.run_findKey hk hf, MapKept.run_setObj_map _ h1, Result.andThen, ChangeMaps.setBlock]
    · rw [del_none A s hh, h2]
  | some q =>
    rw [hh] at hf
    obtain ⟨j, u⟩ := q
    refine ⟨_, ?_, ⟨es.eraseIdxIfInBounds j, cl, ChangeMaps.heap_setBlock_same h1 _, ?_⟩, grown_set h1, by simp [ChangeMaps.setBlock]⟩
    · simp [Builtin.delete_, run_underlying ht, MapKept.run_getObj_map h1, MapKept.run_checkKey hk (k := .string s) trivial, MapKept.run_findKey hk hf, MapKept.run_setObj_map _ h1, Result.andThen, ChangeMaps.setBlock]
    · have hkey := fidx_key A s j u hh
      have hj : j < A.length := (List.getElem?_eq_some_iff.1 hkey).1
      have hl : es.toList.length = A.length := by have := congrArg List.length h2; simpa using this
      have hjs : j < es.size := by rw [← Array.length_toList, hl]; exact hj
      unfold Array.eraseIdxIfInBounds
      rw [dif_pos hjs, del_some A s j u hh, Array.toList_eraseIdx, ← map_erase, h2, map_erase]

end Go.SM
