/- LawS194110BWhole: the entries that came in, read as data: EntAt out of the row's own reading. -/
import Derived.Test.YbulkexozuStates
import Derived.Deep.Slices
import Derived.OpenShut
namespace Go.Proofs.Ybulkexozu
open Go.ChangeShapes Go.WideShapes Go.RowKit Go.Deep

theorem cell_block {w : World} {a : Addr} {v : Value} (h : w.cell? a = some v) : a.block < w.heap.size := by
  unfold World.cell? at h
  cases hb : w.heap[a.block]? with
  | none => rw [hb] at h; cases h
  | some x => exact (Array.getElem?_eq_some_iff.1 hb).1

theorem cells5 : Yba.prog.cellsOf 5 = 1 := by kernel_rfl
theorem cells4 : Yba.prog.cellsOf 4 = 1 := by kernel_rfl
theorem cells9 : Yba.prog.cellsOf 9 = 1 := by kernel_rfl
theorem cells25 : Yba.prog.cellsOf 25 = 20 := by kernel_rfl
theorem cells27 : Yba.prog.cellsOf 27 = 43 := by kernel_rfl

section
variable {H : Type} {enc : TypeId × Value → H} {w : World} {base : Nat} {spare : Nat → Bool} {held : Bool} {fuel : Nat}

theorem bytes_of_trod {cs : List Value} {x : DataW H × List MemPlace} (h : DataW.trod enc Yba.prog w base spare held fuel 25 cs = some x) : cs.length = 20 ∧ Bytes cs := by
  obtain ⟨xs, m, _, _, hl, hxl, hel⟩ := DataW.trod_array Yba.underlying25 h
  rw [cells25] at hl
  refine ⟨hl, fun v hv => ?_⟩
  obtain ⟨i, hi, rfl⟩ := List.getElem_of_mem hv
  have h1 := hel i (by omega)
  rw [cells5, Nat.mul_one, List.getElem?_eq_getElem (by omega)] at h1
  obtain ⟨z, hz, _⟩ := DataW.trod_int Yba.underlying5 h1
  have h2 : (cs.drop i).take 1 = [cs[i]] := by rw [List.drop_eq_getElem_cons hi]; rfl
  rw [h2] at hz
  exact ⟨z, by simpa using hz⟩

theorem ent_of_trod {cs : List Value} {x : DataW H × List MemPlace} (h : DataW.trod enc Yba.prog w base spare held fuel 27 cs = some x) : ∃ e : Ent, e.Ok ∧ e.cells = cs := by
  obtain ⟨xs, m, _, _, hl, hxl, hf⟩ := DataW.trod_struct Yba.underlying27 h
  rw [cells27] at hl
  have hxl' : xs.length = 5 := hxl
  have g0 : DataW.trod enc Yba.prog w base spare held m 9 ((cs.drop 0).take (Yba.prog.cellsOf 9)) = xs[0]? := hf 0 _ rfl
  have g1 : DataW.trod enc Yba.prog w base spare held m 9 ((cs.drop 1).take (Yba.prog.cellsOf 9)) = xs[1]? := hf 1 _ rfl
  have g2 : DataW.trod enc Yba.prog w base spare held m 25 ((cs.drop 2).take (Yba.prog.cellsOf 25)) = xs[2]? := hf 2 _ rfl
  have g3 : DataW.trod enc Yba.prog w base spare held m 25 ((cs.drop 22).take (Yba.prog.cellsOf 25)) = xs[3]? := hf 3 _ rfl
  have g4 : DataW.trod enc Yba.prog w base spare held m 4 ((cs.drop 42).take (Yba.prog.cellsOf 4)) = xs[4]? := hf 4 _ rfl
  rw [cells9] at g0 g1
  rw [cells25] at g2 g3
  rw [cells4] at g4
  rw [List.getElem?_eq_getElem (by omega)] at g0 g1 g2 g3 g4
  obtain ⟨s, hs, _⟩ := DataW.trod_string Yba.underlying9 g0
  obtain ⟨t, ht, _⟩ := DataW.trod_string Yba.underlying9 g1
  obtain ⟨l2, b2⟩ := bytes_of_trod g2
  obtain ⟨l3, b3⟩ := bytes_of_trod g3
  obtain ⟨o, ho, _⟩ := DataW.trod_bool Yba.underlying4 g4
  refine ⟨⟨s, t, (cs.drop 2).take 20, (cs.drop 22).take 20, o⟩, ⟨l2, l3, b2, b3⟩, ?_⟩
  have e4 : cs.drop 42 = [.bool o] := by rw [← ho]; exact (List.take_of_length_le (by simp; omega)).symm
  have e3 : cs.drop 22 = (cs.drop 22).take 20 ++ [.bool o] := by
    rw [← e4]
    conv => lhs; rw [← List.take_append_drop 20 (cs.drop 22)]
    rw [List.drop_drop]
  have e2 : cs.drop 2 = (cs.drop 2).take 20 ++ cs.drop 22 := by
    conv => lhs; rw [← List.take_append_drop 20 (cs.drop 2)]
    rw [List.drop_drop]
  have e1 : cs.drop 1 = .string t :: cs.drop 2 := by
    conv => lhs; rw [← List.take_append_drop 1 (cs.drop 1)]
    rw [ht, List.drop_drop]
    rfl
  have e0 : cs = .string s :: cs.drop 1 := by
    conv => lhs; rw [← List.take_append_drop 1 cs]
    have : cs.take 1 = [.string s] := by simpa using hs
    rw [this]
    rfl
  show .string s :: .string t :: ((cs.drop 2).take 20 ++ ((cs.drop 22).take 20 ++ [.bool o])) = cs
  rw [← e3, ← e2, ← e1, ← e0]

theorem ents_of_trod {a0 : Option Addr} {n cap0 : Nat} {x : DataW H × List MemPlace} (h : DataW.trod enc Yba.prog w base spare held fuel 22 [.slice a0 n cap0] = some x) : ∃ E, EntAt w a0 n E := by
  rcases open_slice Yba.underlying22 h with ⟨hcs, _⟩ | ⟨a, len, cap, m, k, D, Pl, hcs, hb, hl, hm, hmm, hx, hel⟩
  · simp at hcs
    obtain ⟨rfl, rfl, rfl⟩ := hcs
    exact ⟨fun _ => ⟨ByteArray.empty, ByteArray.empty, [], [], false⟩, fun k hk => absurd hk (by omega)⟩
  · simp at hcs
    obtain ⟨rfl, rfl, rfl⟩ := hcs
    have hlm : n ≤ m := by rw [hmm]; split <;> omega
    have each : ∀ i, i < n → ∃ e : Ent, e.Ok ∧ ∀ j, j < 43 → w.cell? (a.add (i * 43 + j)) = e.cells[j]? := by
      intro i hi
      obtain ⟨cs', h1, h2⟩ := hel i (by omega)
      rw [cells27] at h1
      obtain ⟨_, hlen, hcell⟩ := World.cells?_some h1
      obtain ⟨e, ok, he⟩ := ent_of_trod h2
      refine ⟨e, ok, fun j hj => ?_⟩
      have := hcell j hj
      rw [add_add] at this
      rw [he]
      exact this
    obtain ⟨E, hE⟩ : ∃ E : Nat → Ent, ∀ i, i < n → (E i).Ok ∧ ∀ j, j < 43 → w.cell? (a.add (i * 43 + j)) = (E i).cells[j]? := by
      refine ⟨fun i => if h : i < n then Classical.choose (each i h) else ⟨ByteArray.empty, ByteArray.empty, [], [], false⟩, fun i hi => ?_⟩
      simp only [dif_pos hi]
      exact Classical.choose_spec (each i hi)
    refine ⟨E, fun i hi => ?_⟩
    obtain ⟨b, off, spot⟩ := a
    obtain ⟨ok, hc⟩ := hE i hi
    have c0 : w.cell? ((⟨b, off, spot⟩ : Addr).add (i * 43 + 0)) = some (.string (E i).db) := hc 0 (by omega)
    have hspot : spot = none := by
      have := (hE 0 (by omega)).2 0 (by omega)
      rw [show 0 * 43 + 0 = 0 from rfl] at this
      have h2 : w.cell? ((⟨b, off, spot⟩ : Addr).add 0) = some (.string (E 0).db) := this
      simpa [Addr.add] using World.cell?_spot h2
    subst hspot
    refine ⟨b, off, rfl, ?_, fun j v hv => ?_, ok⟩
    · rw [add_plain] at c0
      exact cell_block c0
    · have hj : j < 43 := by have := (List.getElem?_eq_some_iff.1 hv).1; rw [ok.len] at this; exact this
      have := hc j hj
      rw [add_plain, hv] at this
      rw [← this, Nat.add_assoc]
end
end Go.Proofs.Ybulkexozu
