/- LawS194118BWhole: the tags that came in, read as data: InAt out of the row's own reading. -/
import Derived.Test.YbulkexpecFmtBuild
import Derived.Deep.Slices
import Derived.OpenShut
namespace Go.Proofs.YbulkexpecFmt
open Go.ChangeShapes Go.WideShapes Go.RowKit Go.Deep

theorem cell_block {w : World} {a : Addr} {v : Value} (h : w.cell? a = some v) : a.block < w.heap.size := by
  unfold World.cell? at h
  cases hb : w.heap[a.block]? with
  | none => rw [hb] at h; cases h
  | some x => exact (Array.getElem?_eq_some_iff.1 hb).1

theorem cells3' : Ybaf.prog.cellsOf 3 = 1 := by kernel_rfl
theorem cells5' : Ybaf.prog.cellsOf 5 = 1 := by kernel_rfl
theorem cells27 : Ybaf.prog.cellsOf 27 = 5 := by kernel_rfl

section
variable {H : Type} {enc : TypeId × Value → H} {w : World} {base : Nat} {spare : Nat → Bool} {held : Bool} {fuel : Nat}

def IT.cells (t : IT) : List Value := [.int .i64 t.s, .int .i64 t.e, .int .u8 t.i, .int .u8 t.x, .int .i64 t.c]
theorem it_of_trod {cs : List Value} {x : DataW H × List MemPlace} (h : DataW.trod enc Ybaf.prog w base spare held fuel 27 cs = some x) : ∃ t : IT, t.cells = cs ∧ (0 ≤ t.i ∧ t.i ≤ 255) ∧ (0 ≤ t.x ∧ t.x ≤ 255) := by
  obtain ⟨xs, m, _, _, hl, hxl, hf⟩ := DataW.trod_struct Ybaf.underlying27 h
  rw [cells27] at hl
  have hxl' : xs.length = 5 := hxl
  have g0 : DataW.trod enc Ybaf.prog w base spare held m 3 ((cs.drop 0).take (Ybaf.prog.cellsOf 3)) = xs[0]? := hf 0 _ rfl
  have g1 : DataW.trod enc Ybaf.prog w base spare held m 3 ((cs.drop 1).take (Ybaf.prog.cellsOf 3)) = xs[1]? := hf 1 _ rfl
  have g2 : DataW.trod enc Ybaf.prog w base spare held m 5 ((cs.drop 2).take (Ybaf.prog.cellsOf 5)) = xs[2]? := hf 2 _ rfl
  have g3 : DataW.trod enc Ybaf.prog w base spare held m 5 ((cs.drop 3).take (Ybaf.prog.cellsOf 5)) = xs[3]? := hf 3 _ rfl
  have g4 : DataW.trod enc Ybaf.prog w base spare held m 3 ((cs.drop 4).take (Ybaf.prog.cellsOf 3)) = xs[4]? := hf 4 _ rfl
  rw [cells3'] at g0 g1 g4
  rw [cells5'] at g2 g3
  rw [List.getElem?_eq_getElem (by omega)] at g0 g1 g2 g3 g4
  obtain ⟨z0, h0, _⟩ := DataW.trod_int Ybaf.underlying3 g0
  obtain ⟨z1, h1, _⟩ := DataW.trod_int Ybaf.underlying3 g1
  obtain ⟨z2, h2, _, w2⟩ := DataW.trod_int Ybaf.underlying5 g2
  obtain ⟨z3, h3, _, w3⟩ := DataW.trod_int Ybaf.underlying5 g3
  obtain ⟨z4, h4, _⟩ := DataW.trod_int Ybaf.underlying3 g4
  match cs, hl with
  | [a, b, c, d, e], _ =>
    simp at h0 h1 h2 h3 h4
    subst h0 h1 h2 h3 h4
    exact ⟨⟨z0, z1, z2, z3, z4⟩, rfl, bounds_u8 w2, bounds_u8 w3⟩

theorem its_of_trod {a0 : Option Addr} {n cap0 : Nat} {x : DataW H × List MemPlace} (h : DataW.trod enc Ybaf.prog w base spare held fuel 22 [.slice a0 n cap0] = some x) : (a0 = none → n = 0 ∧ cap0 = 0) ∧ ∃ T, InAt w a0 n T := by
  rcases open_slice Ybaf.underlying22 h with ⟨hcs, _⟩ | ⟨a, len, cap, m, k, D, Pl, hcs, hb, hl, hm, hmm, hx, hel⟩
  · simp at hcs
    obtain ⟨rfl, rfl, rfl⟩ := hcs
    exact ⟨fun _ => ⟨rfl, rfl⟩, fun _ => ⟨0, 0, 0, 0, 0⟩, fun k hk => absurd hk (by omega)⟩
  · simp at hcs
    obtain ⟨rfl, rfl, rfl⟩ := hcs
    have hlm : n ≤ m := by rw [hmm]; split <;> omega
    have each : ∀ i, i < n → ∃ t : IT, ((0 ≤ t.i ∧ t.i ≤ 255) ∧ (0 ≤ t.x ∧ t.x ≤ 255)) ∧ ∀ j, j < 5 → w.cell? (a.add (i * 5 + j)) = t.cells[j]? := by
      intro i hi
      obtain ⟨cs', h1, h2⟩ := hel i (by omega)
      rw [cells27] at h1
      obtain ⟨_, hlen, hcell⟩ := World.cells?_some h1
      obtain ⟨t, ht, r1, r2⟩ := it_of_trod h2
      refine ⟨t, ⟨r1, r2⟩, fun j hj => ?_⟩
      have := hcell j hj
      rw [add_add] at this
      rw [ht]
      exact this
    obtain ⟨T, hT⟩ : ∃ T : Nat → IT, ∀ i, i < n → ((0 ≤ (T i).i ∧ (T i).i ≤ 255) ∧ (0 ≤ (T i).x ∧ (T i).x ≤ 255)) ∧ ∀ j, j < 5 → w.cell? (a.add (i * 5 + j)) = (T i).cells[j]? := by
      refine ⟨fun i => if h : i < n then Classical.choose (each i h) else ⟨0, 0, 0, 0, 0⟩, fun i hi => ?_⟩
      simp only [dif_pos hi]
      exact Classical.choose_spec (each i hi)
    refine ⟨fun h => (by cases h), T, fun i hi => ?_⟩
    obtain ⟨b, off, spot⟩ := a
    obtain ⟨⟨r1, r2⟩, hc⟩ := hT i hi
    have hspot : spot = none := by
      have := (hT 0 (by omega)).2 0 (by omega)
      rw [show 0 * 5 + 0 = 0 from rfl] at this
      have h2 : w.cell? ((⟨b, off, spot⟩ : Addr).add 0) = some (.int .i64 (T 0).s) := this
      simpa [Addr.add] using World.cell?_spot h2
    subst hspot
    have c0 : w.cell? ((⟨b, off, none⟩ : Addr).add (i * 5 + 0)) = some (.int .i64 (T i).s) := hc 0 (by omega)
    have c1 : w.cell? ((⟨b, off, none⟩ : Addr).add (i * 5 + 1)) = some (.int .i64 (T i).e) := hc 1 (by omega)
    have c2 : w.cell? ((⟨b, off, none⟩ : Addr).add (i * 5 + 2)) = some (.int .u8 (T i).i) := hc 2 (by omega)
    have c3 : w.cell? ((⟨b, off, none⟩ : Addr).add (i * 5 + 3)) = some (.int .u8 (T i).x) := hc 3 (by omega)
    have c4 : w.cell? ((⟨b, off, none⟩ : Addr).add (i * 5 + 4)) = some (.int .i64 (T i).c) := hc 4 (by omega)
    rw [add_plain] at c0 c1 c2 c3 c4
    exact ⟨b, off, rfl, cell_block c0, c0, c1, c2, c3, c4, r1, r2⟩
end
end Go.Proofs.YbulkexpecFmt
