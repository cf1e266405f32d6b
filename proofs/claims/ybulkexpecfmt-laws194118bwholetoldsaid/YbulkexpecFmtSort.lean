/- LawS194118BWhole: slices.SortFunc at Join's row of keyed expressions. -/
import Derived.Test.YbulkexpecFmtAdd3
import Derived.Shelf.SlSortCmp.WholeK
import Derived.Sort.LotA
namespace Go.Proofs.YbulkexpecFmt
open Go.RowKit Go.PK Go.Shelf Go.Sort
set_option linter.unusedVariables false

abbrev BL := List UInt8
def lexlt (a b c d : BL) : Prop := a < c ∨ (a = c ∧ b < d)
theorem bl_tri (a b : BL) : a < b ∨ a = b ∨ b < a := by
  by_cases h1 : a < b
  · exact .inl h1
  · by_cases h2 : b < a
    · exact .inr (.inr h2)
    · exact .inr (.inl (List.le_antisymm (List.not_lt.1 h2) (List.not_lt.1 h1)))
theorem lex_irrefl (a b : BL) : ¬ lexlt a b a b := by
  rintro (h | ⟨_, h⟩) <;> exact List.lt_irrefl _ h
theorem lex_trans {a b c d e f : BL} (h1 : lexlt a b c d) (h2 : lexlt c d e f) : lexlt a b e f := by
  rcases h1 with h1 | ⟨rfl, h1⟩ <;> rcases h2 with h2 | ⟨rfl, h2⟩
  · exact .inl (List.lt_trans h1 h2)
  · exact .inl h1
  · exact .inl h2
  · exact .inr ⟨rfl, List.lt_trans h1 h2⟩
theorem lex_tri (a b c d : BL) : lexlt a b c d ∨ (a = c ∧ b = d) ∨ lexlt c d a b := by
  rcases bl_tri a c with h | rfl | h
  · exact .inl (.inl h)
  · rcases bl_tri b d with h | rfl | h
    · exact .inl (.inr ⟨rfl, h⟩)
    · exact .inr (.inl ⟨rfl, rfl⟩)
    · exact .inr (.inr (.inr ⟨rfl, h⟩))
  · exact .inr (.inr (.inl h))
theorem lex_ntrans {a b c d e f : BL} (h1 : ¬ lexlt a b c d) (h2 : ¬ lexlt c d e f) : ¬ lexlt a b e f := by
  intro h
  rcases lex_tri a b c d with h3 | ⟨rfl, rfl⟩ | h3
  · exact h1 h3
  · exact h2 h
  · exact h2 (lex_trans h3 h)

theorem compareBytes_neg : ∀ (a b : BL), Lib.compareBytes a b < 0 ↔ a < b
  | [], [] => by simp [Lib.compareBytes]
  | [], _ :: _ => by simp [Lib.compareBytes]
  | _ :: _, [] => by simp [Lib.compareBytes]
  | a :: xs, b :: ys => by
    rw [Lib.compareBytes, List.cons_lt_cons_iff, ← compareBytes_neg xs ys]
    by_cases h1 : a < b
    · simp [h1]
    · by_cases h2 : b < a
      · have : a ≠ b := fun e => by subst e; exact h1 h2
        simp [h1, h2, this]
      · have : a = b := UInt8.le_antisymm (UInt8.not_lt.1 h2) (UInt8.not_lt.1 h1)
        subst this
        simp
theorem cfK_neg (i t j u : ByteArray) : cfK i t j u < 0 ↔ lexlt i.data.toList t.data.toList j.data.toList u.data.toList := by
  unfold cfK orI cmpS lexlt
  rw [Proofs.bytesLess_eq, Lib.toList_data, Lib.toList_data]
  have e : i.data.toList = j.data.toList ↔ i = j := ⟨fun h => ByteArray.ext (by simpa using h), fun h => by rw [h]⟩
  rw [e]
  by_cases h1 : i.data.toList < j.data.toList
  · simp [h1]
  · by_cases h2 : i = j
    · subst h2
      simp [h1, compareBytes_neg]
    · simp [h1, h2]

def ltE (p q : EX) : Bool := decide (cfK p.1 (textOf p.1 p.2) q.1 (textOf q.1 q.2) < 0)

theorem swoE {α : Type} [Inhabited α] (f h : α → ByteArray) : SWO (ltOf fun x y : α => cfK (f x) (h x) (f y) (h y)) where
  irrefl x := by simp only [ltOf, cfK_neg, decide_eq_false_iff_not]; exact lex_irrefl _ _
  trans x y z h1 h2 := by simp only [ltOf, cfK_neg, decide_eq_true_eq] at *; exact lex_trans h1 h2
  ntrans x y z h1 h2 := by simp only [ltOf, cfK_neg, decide_eq_false_iff_not] at *; exact lex_ntrans h1 h2

theorem eg22 : ∀ args w, (callFunc 22 args).run Ybaf.prog w = .ok (.enter 22 args) w := enters_of Ybaf.func22 (by kernel_rfl) rfl

theorem block_sortWorldK {α : Type} [Inhabited α] (enc : α → List Value) (k : Nat) (W : World) (blk off n : Nat) (dk : Array α) (os : Array Obj) (b : Nat) (h1 : b ≠ blk) (h2 : b < W.heap.size) : (sortWorldK enc k W blk off n dk os).heap[b]? = W.heap[b]? := by
  unfold sortWorldK grow putRowK putRow mapBlock
  show ((W.heap.modify blk _) ++ os)[b]? = _
  rw [Array.getElem?_append_left (by simpa using h2), Array.getElem?_modify, if_neg (fun e => h1 e.symm)]

theorem sort_any (w : World) (ab B g cap : Nat) (ks : List KE) (hK : AllAt w ab B (.slice (some ⟨g, 0, none⟩) ks.length cap) ks) (h0 : ks ≠ []) (hlen : ks.length < 4611686018427387904) :
    Calls Ybaf.prog 21 #[.slice (some ⟨g, 0, none⟩) ks.length cap, .func (.func 22) #[] #[]] w fun e w' => Hid (e = .returned (.tuple #[]) ∧ ∃ l : List KE, l.Perm ks ∧ (l.Pairwise fun p q => ltE (q.i, q.x) (p.i, p.x) = false) ∧
      (∀ j, (hj : j < l.length) → ∀ i v, (l[j].enc)[i]? = some v → w'.cell? ⟨g, 0 + j * 6 + i, none⟩ = some v) ∧ Moved w w' (fun b => b = g)) := by
  obtain ⟨g1, cap1, e1, hBg, hgl, hga, hcell⟩ := hK.cell h0
  obtain ⟨rfl, rfl⟩ : g = g1 ∧ cap = cap1 := by simpa using e1
  clear e1
  haveI : Inhabited {k : KE // k ∈ ks} := ⟨⟨ks.head h0, List.head_mem h0⟩⟩
  obtain ⟨d, hd⟩ : ∃ d, d = ks.attach.toArray := ⟨_, rfl⟩
  have hds : d.size = ks.length := by rw [hd]; simp
  have hget : ∀ j, (hj : j < ks.length) → (d[j]!).1 = ks[j] := fun j hj => by
    rw [getElem!_pos d j (by omega)]
    subst hd
    simp
  obtain ⟨enc, henc⟩ : ∃ enc : {k : KE // k ∈ ks} → List Value, enc = fun k => k.1.enc := ⟨_, rfl⟩
  have hlk : ∀ x, (enc x).length = 6 := fun x => by rw [henc]; exact KE.len _
  have h1 : ∀ x, ∀ v ∈ enc x, v.oneCell' = true := fun x => by rw [henc]; exact KE.one _
  obtain ⟨cur, hgb, _, hnc, hcm, hcs, htk⟩ := own_blk hK.row
  have hH : HoldsK enc 6 w g 0 d := by
    intro t ht
    rw [size_flatK, hds] at ht
    have htq : t / 6 < ks.length := by omega
    rw [get_flatK _ _ _ _ (by rw [hds]; exact ht)]
    refine ⟨?_, frozen_of_row _ _ _ _ _ hgb⟩
    have hc := hcell (t / 6) htq (t % 6) ((ks[t / 6].enc)[t % 6]!) (by
      have : t % 6 < (ks[t / 6].enc).length := by rw [KE.len]; omega
      rw [getElem!_pos (ks[t / 6].enc) _ this, List.getElem?_eq_getElem this])
    rw [show 0 + t / 6 * 6 + t % 6 = 0 + t by omega] at hc
    rw [hc, henc]
    simp only [id_eq]
    rw [hget _ htq]
  have hids : ∀ x : {k : KE // k ∈ ks}, w.cell? ⟨x.1.g, 0, none⟩ = some (.string x.1.i) ∧ x.1.g ≠ g := fun x => by
    obtain ⟨a1, _, a3, _⟩ := hK.ids x.1 x.2
    exact ⟨a1, fun e => a3 (by rw [e]; rfl)⟩
  have key := AnyQ.slices_SortFunc Ybaf.sortK 6 Ybaf.isAgg49 Ybaf.sizeOf49 enc hlk h1 (fun x y => cfK x.1.i (textOf x.1.i x.1.x) y.1.i (textOf y.1.i y.1.x)) (swoE _ _) 22 #[] g 0 cap d w eg22
    (fun m os dk hsz x y => by
      have hx := hids x
      have hy := hids y
      have := clo22 x.1.g y.1.g x.1.i (textOf x.1.i x.1.x) y.1.i (textOf y.1.i y.1.x) x.1.x y.1.x (sortWorldK enc 6 w g 0 m dk os)
        (by rw [cell?_sortWorldK_other _ _ _ _ _ _ _ _ _ hx.2 (World.block_lt_of_cell? w _ hx.1)]; exact hx.1)
        (by rw [cell?_sortWorldK_other _ _ _ _ _ _ _ _ _ hy.2 (World.block_lt_of_cell? w _ hy.1)]; exact hy.1)
      rw [henc] at this ⊢
      exact this) hH hgl (by omega)
  rw [hds] at key
  refine key.mono ?_
  rintro e w' ⟨he, d', n, os, hp, hso, rfl⟩
  have hps : d'.size = d.size := hp.1
  refine ⟨he, d'.toList.map (·.1), ?_, ?_, ?_, rfl, rfl, rfl, ?_, ?_⟩
  · have h3 := hp.2.2
    rw [show (d'.extract 0 ks.length) = d' by rw [← hds, ← hps]; simp, show (d.extract 0 ks.length) = d by rw [← hds]; simp] at h3
    have h4 := h3.map (·.1)
    rw [hd, List.attach_map_subtype_val] at h4
    exact h4
  · rw [List.pairwise_map, List.pairwise_iff_getElem]
    intro i j hi hj hij
    have := hso i j (by omega) hij (by simp at hj; omega)
    rw [getElem!_pos d' i (by simpa using hi), getElem!_pos d' j (by simpa using hj)] at this
    simpa [ltOf, ltE] using this
  · intro j hj i v hv
    have hj' : j < d'.size := by simpa using hj
    have hi : i < 6 := by have := (List.getElem?_eq_some_iff.1 hv).1; rw [KE.len] at this; exact this
    have := ((holdsK_sortWorldK_c enc 6 w g 0 d d' n os hH hgl hps).cell hj' hi).1
    rw [this, getElem!_pos d' j hj', henc]
    have hl : i < (d'[j].1.enc).length := by rw [KE.len]; exact hi
    rw [getElem!_pos (d'[j].1.enc) _ hl]
    rw [List.getElem_map, Array.getElem_toList, List.getElem?_eq_getElem hl] at hv
    exact hv
  · exact size_sortWorldK_c _ _ _ _ _ _ _ _
  · exact fun b hb hne => block_sortWorldK _ _ _ _ _ _ _ _ _ hne hb
end Go.Proofs.YbulkexpecFmt
