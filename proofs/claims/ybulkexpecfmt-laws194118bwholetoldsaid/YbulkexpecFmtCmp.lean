/- LawS194118BWhole: comparisons: cmp.Compare[string] (33), slices.Compare[[]string] (24) at one element, cmp.Or[int] (23) at two, Join's closure (22). -/
import Derived.Test.YbulkexpecFmtIds2
import Derived.Laws.Cover1
import Derived.Sort.Grow
import Derived.Deep.RegionHeld3
namespace Go.Proofs.YbulkexpecFmt
open Go.RowKit Go.PK Go.Sort
set_option linter.unusedVariables false

def cmpS (a b : ByteArray) : Int := if Op.bytesLess a.toList b.toList = true then -1 else if a = b then 0 else 1

theorem nan_any (a : ByteArray) (w : World) : Calls Ybaf.prog 51 #[.string a] w fun e w' => e = .returned (.bool false) ∧ w' = w := by
  have h := bb_eq (rfl : a = a)
  go_enter Ybaf.func51, Ybaf.ntmps51
  go_wp2
  go_ret
  exact ⟨rfl, rfl⟩

set_option maxHeartbeats 1000000 in
theorem cmp33_any (a b : ByteArray) (w : World) : Calls Ybaf.prog 33 #[.string a, .string b] w fun e w' => e = .returned (.int .i64 (cmpS a b)) ∧ w' = w := by
  unfold cmpS
  cases hl : Op.bytesLess a.toList b.toList with
  | true =>
    rw [if_pos rfl]
    go_enter Ybaf.func33, Ybaf.ntmps33
    go_wp2_with (go_at_call 51; refine (nan_any _ _).mono ?_; rintro e w' ⟨rfl, rfl⟩)
    go_ret
    exact ⟨rfl, rfl⟩
  | false =>
    rw [if_neg (by simp)]
    by_cases h : a = b
    · subst h
      rw [if_pos rfl]
      have h1 := bb_eq (rfl : a = a)
      go_enter Ybaf.func33, Ybaf.ntmps33
      go_wp2_with (go_at_call 51; refine (nan_any _ _).mono ?_; rintro e w' ⟨rfl, rfl⟩)
      go_ret
      exact ⟨rfl, rfl⟩
    · rw [if_neg h]
      have h1 := bb_ne h
      go_enter Ybaf.func33, Ybaf.ntmps33
      go_wp2_with (go_at_call 51; refine (nan_any _ _).mono ?_; rintro e w' ⟨rfl, rfl⟩)
      go_ret
      exact ⟨rfl, rfl⟩

set_option maxHeartbeats 1000000 in
set_option maxRecDepth 100000 in
theorem cmp24_one (g g' : Nat) (a b : ByteArray) (w : World) (ha : w.cell? ⟨g, 0, none⟩ = some (.string a)) (hb : w.cell? ⟨g', 0, none⟩ = some (.string b)) :
    Calls Ybaf.prog 24 #[.slice (some ⟨g, 0, none⟩) 1 1, .slice (some ⟨g', 0, none⟩) 1 1] w fun e w' => e = .returned (.int .i64 (cmpS a b)) ∧ w' = w := by
  have h33 := fun W => cmp33_any a b W
  generalize cmpS a b = c at *
  go_enter Ybaf.func24, Ybaf.ntmps24
  go_wp2_with fail
  go_loopw [11] (fun j y => y = w ∧ (j = .int .i64 0 ∨ (j = .int .i64 1 ∧ Hid (c = 0)))) (fun j _ => 1 - (intOf j).toNat)
  case atStart => exact ⟨rfl, .inl rfl⟩
  case round =>
    obtain ⟨hy, hj⟩ := hrel
    rw [hy]
    clear hy
    rcases hj with rfl | ⟨rfl, hc⟩
    · by_cases hc : c = 0
      · have HC : Hid (c = 0) := hc
        have hd : (c == 0) = true := by simp [hc]
        have hd2 : (c != 0) = false := by simp [hc]
        clear hc
        go_wp2_with (go_at_call 33; refine (h33 _).mono ?_; rintro e w' ⟨rfl, rfl⟩)
        exact ⟨⟨trivial, .inr ⟨rfl, HC⟩⟩, by simp [intOf]⟩
      · have hd : (c == 0) = false := by simp [hc]
        have hd2 : (c != 0) = true := by simp [hc]
        go_wp2_with (go_at_call 33; refine (h33 _).mono ?_; rintro e w' ⟨rfl, rfl⟩)
        go_ret
        exact ⟨rfl, rfl⟩
    · go_wp2_with fail
      go_ret
      exact ⟨by rw [hc.out]; rfl, rfl⟩

def orI (c d : Int) : Int := if c = 0 then d else c

set_option maxHeartbeats 1000000 in
set_option maxRecDepth 100000 in
theorem or23_two (g : Nat) (c d : Int) (w : World) (hc : w.cell? ⟨g, 0, none⟩ = some (.int .i64 c)) (hd : w.cell? ⟨g, 1, none⟩ = some (.int .i64 d)) :
    Calls Ybaf.prog 23 #[.slice (some ⟨g, 0, none⟩) 2 2] w fun e w' => e = .returned (.int .i64 (orI c d)) ∧ w' = w := by
  obtain ⟨r, hr⟩ : ∃ r, r = orI c d := ⟨_, rfl⟩
  rw [← hr]
  have HR : Hid (r = orI c d) := hr
  clear hr
  go_enter Ybaf.func23, Ybaf.ntmps23
  go_wp2_with fail
  go_loopw [8] (fun j y => y = w ∧ (j = .int .i64 0 ∨ (j = .int .i64 1 ∧ Hid (c = 0)) ∨ (j = .int .i64 2 ∧ Hid (c = 0) ∧ Hid (d = 0)))) (fun j _ => 2 - (intOf j).toNat)
  case atStart => exact ⟨rfl, .inl rfl⟩
  case round =>
    obtain ⟨hy, hj⟩ := hrel
    rw [hy]
    clear hy
    rcases hj with rfl | ⟨rfl, hc0⟩ | ⟨rfl, hc0, hd0⟩
    · by_cases h : c = 0
      · have HC : Hid (c = 0) := h
        have h1 : (c == 0) = true := by simp [h]
        have h2 : (c != 0) = false := by simp [h]
        clear h
        go_wp2_with fail
        exact ⟨⟨trivial, .inr (.inl ⟨rfl, HC⟩)⟩, by simp [intOf]⟩
      · have h1 : (c == 0) = false := by simp [h]
        have h2 : (c != 0) = true := by simp [h]
        go_wp2_with fail
        go_ret
        exact ⟨by rw [HR.out, orI, if_neg h]; rfl, rfl⟩
    · by_cases h : d = 0
      · have HC : Hid (d = 0) := h
        have h1 : (d == 0) = true := by simp [h]
        have h2 : (d != 0) = false := by simp [h]
        clear h
        go_wp2_with fail
        exact ⟨⟨trivial, .inr (.inr ⟨rfl, hc0, HC⟩)⟩, by simp [intOf]⟩
      · have h1 : (d == 0) = false := by simp [h]
        have h2 : (d != 0) = true := by simp [h]
        go_wp2_with fail
        go_ret
        exact ⟨by rw [HR.out, orI, if_pos hc0.out]; rfl, rfl⟩
    · go_wp2_with fail
      go_ret
      exact ⟨by rw [HR.out, orI, if_pos hc0.out, hd0.out]; rfl, rfl⟩

/-- Join's closure: by the ids, then by the texts. -/
def cfK (i t j u : ByteArray) : Int := orI (cmpS i j) (Lib.compareBytes t.data.toList u.data.toList)

set_option maxHeartbeats 1000000 in
set_option maxRecDepth 100000 in
theorem clo22 (g g' : Nat) (i t j u : ByteArray) (x y : ByteArray) (W : World) (ha : W.cell? ⟨g, 0, none⟩ = some (.string i)) (hb : W.cell? ⟨g', 0, none⟩ = some (.string j)) :
    Calls Ybaf.prog 22 #[.agg #[.int .i64 0, .string i, .string x, .slice none 0 0, .slice (some ⟨g, 0, none⟩) 1 1, .string t], .agg #[.int .i64 0, .string j, .string y, .slice none 0 0, .slice (some ⟨g', 0, none⟩) 1 1, .string u]] W fun e w' => e = .returned (.int .i64 (cfK i t j u)) ∧ ∃ q os', w' = grow (W.drewN q) os' := by
  have hgl := World.block_lt_of_cell? W _ ha
  have hgl' := World.block_lt_of_cell? W _ hb
  have k0 : ∀ (V : World) (o : Obj) (b : Nat) (v : Value), V.cell? ⟨b, 0, none⟩ = some v → (V.alloc o).cell? ⟨b, 0, none⟩ = some v := fun V o b v h => by rw [World.cell?_alloc_lt _ _ _ (World.block_lt_of_cell? V _ h)]; exact h
  have a1 := fun o => k0 W o g _ ha
  have a2 := fun o o' => k0 _ o' g _ (a1 o)
  have a3 := fun o o' o'' => k0 _ o'' g _ (a2 o o')
  have b1 := fun o => k0 W o g' _ hb
  have b2 := fun o o' => k0 _ o' g' _ (b1 o)
  have b3 := fun o o' o'' => k0 _ o'' g' _ (b2 o o')
  clear k0
  have h25 := Ybaf.strings_Compare t u
  have h24 := fun W' (h1 : W'.cell? ⟨g, 0, none⟩ = some (.string i)) (h2 : W'.cell? ⟨g', 0, none⟩ = some (.string j)) => cmp24_one g g' i j W' h1 h2
  unfold cfK
  generalize cmpS i j = c1 at *
  generalize Lib.compareBytes t.data.toList u.data.toList = c2 at *
  go_enter Ybaf.func22, Ybaf.ntmps22
  go_wp2_with fail
  go_region_held3 (fun w' => w'.cell? ⟨W.heap.size, 4, none⟩ = some (.slice (some ⟨g, 0, none⟩) 1 1) ∧ w'.cell? ⟨W.heap.size, 5, none⟩ = some (.string t) ∧ w'.cell? ⟨W.heap.size + 1, 4, none⟩ = some (.slice (some ⟨g', 0, none⟩) 1 1) ∧ w'.cell? ⟨W.heap.size + 1, 5, none⟩ = some (.string u) ∧ w'.cell? ⟨g, 0, none⟩ = some (.string i) ∧ w'.cell? ⟨g', 0, none⟩ = some (.string j)) (go_keep)
    (first | (go_at_call 24; refine (h24 _ (by go_split_ands; assumption) (by go_split_ands; assumption)).mono ?_; rintro e w' ⟨rfl, rfl⟩) | (go_at_call 25; refine (h25 _).mono ?_; rintro e w' ⟨rfl, rfl⟩) | (go_at_call 23; refine (or23_two _ c1 c2 _ (by simp [go_sem]) (by simp [go_sem])).mono ?_; rintro e w' ⟨rfl, rfl⟩))
  all_goals go_wp2
  all_goals go_ret
  all_goals exact ⟨rfl, 1, _, by rw [alloc_eq_grow, alloc_eq_grow, alloc_eq_grow, grow_grow, grow_grow]; rfl⟩
end Go.Proofs.YbulkexpecFmt
