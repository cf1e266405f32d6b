/- LawS194118AWhole: the arguments that came in, read as data: PreAt and SrcIs out of the row's own reading. -/
import Derived.Test.YbulkexpecLinksAt
import Derived.Deep.Slices
import Derived.SizedLaws
namespace Go.Proofs.Ybulkexpec
open Go.ChangeShapes Go.WideShapes Go.RowKit Go.Deep

theorem cell_block {w : World} {a : Addr} {v : Value} (h : w.cell? a = some v) : a.block < w.heap.size := by
  unfold World.cell? at h
  cases hb : w.heap[a.block]? with
  | none => rw [hb] at h; cases h
  | some x => exact (Array.getElem?_eq_some_iff.1 hb).1

theorem add_block (a : Addr) (j : Nat) : (a.add j).block = a.block := by unfold Addr.add; split <;> rfl

theorem mem_weightsAll {H : Type} {P : Program} {e : TypeId} : ∀ {l : List (DataW H)} {d : DataW H}, d ∈ l → ∀ n ∈ d.weights P e, n ∈ DataW.weightsAll P e l
  | [], d, h => by cases h
  | x :: r, d, h => by
    intro n hn
    simp only [DataW.weightsAll, List.mem_append]
    rcases List.mem_cons.1 h with rfl | h
    · exact .inl hn
    · exact .inr (mem_weightsAll h n hn)

theorem bytes5 : Yba.prog.bytesOf 5 = 1 := by kernel_rfl

theorem src_of_trod {H : Type} {enc : TypeId × Value → H} {w : World} {base : Nat} {spare : Nat → Bool} {held : Bool} {fuel : Nat} {v : Value} {x : DataW H × List MemPlace}
    (h : DataW.trod enc Yba.prog w base spare held fuel 23 [v] = some x) (hw : ∀ n ∈ x.1.weights Yba.prog 23, n ≤ reachBytes) : ∃ z, SrcIs w v z := by
  rcases open_ints Yba.underlying23 Yba.underlying5 (by kernel_rfl) h with ⟨hcs, _⟩ | ⟨a, l, c, zs, hcs, _, hl, hm, hz, hx, hcell, hwf⟩
  · simp at hcs
    subst hcs
    exact ⟨none, .inl ⟨rfl, rfl⟩⟩
  · simp at hcs
    subst hcs
    have hlz : l ≤ zs.length := by rw [hz]; split <;> omega
    have hlen : (zs.take l).length = l := by simp; omega
    have hb := hw (((lits .u8 (zs.take l) : List (DataW H)).length + (lits .u8 (zs.drop l) : List (DataW H)).length) * Yba.prog.bytesOf 5) (by rw [hx]; simp [DataW.weights, Yba.underlying23])
    rw [bytes5] at hb
    simp [lits] at hb
    unfold reachBytes at hb
    refine ⟨some (zs.take l), .inr ⟨a, c, zs.take l, by rw [hlen], rfl, by omega, fun j hj => ?_, fun n hn => hwf n (List.mem_of_mem_take hn)⟩⟩
    have h1 := hcell j (by omega)
    have h2 := cell_block h1
    rw [add_block] at h2
    refine ⟨h2, ?_⟩
    rw [h1]
    simp [List.getD, List.getElem?_take_of_lt (show j < l by omega)]

theorem under22 : ∃ e : TypeId, ∃ f0 f1 f2 : Field, Yba.prog.underlying 22 = some (.slice e) ∧ Yba.prog.underlying e = some (.struct #[f0, f1, f2]) ∧ Yba.prog.cellsOf e = 3 ∧
    f0.type = 3 ∧ f1.type = 3 ∧ f2.type = 23 ∧ f0.offset = 0 ∧ f1.offset = 1 ∧ f2.offset = 2 ∧ Yba.prog.cellsOf 3 = 1 ∧ Yba.prog.cellsOf 23 = 1 :=
  ⟨_, _, _, _, Yba.underlying22, Yba.underlying25, by kernel_rfl, by kernel_rfl, by kernel_rfl, by kernel_rfl, by kernel_rfl, by kernel_rfl, by kernel_rfl, by kernel_rfl, by kernel_rfl⟩

theorem pre_of_trod {H : Type} {enc : TypeId × Value → H} {w : World} {base : Nat} {spare : Nat → Bool} {held : Bool} {fuel : Nat} {a0 : Option Addr} {n cap0 : Nat} {x : DataW H × List MemPlace}
    (h : DataW.trod enc Yba.prog w base spare held fuel 22 [.slice a0 n cap0] = some x) (hw : ∀ n ∈ x.1.weights Yba.prog 22, n ≤ reachBytes) : n ≤ maxLen ∧ ∃ S E A Z, PreAt w a0 n S E A Z := by
  obtain ⟨e, f0, f1, f2, h22, he, ce, t0, t1, t2, o0, o1, o2, c3, c23⟩ := under22
  rcases open_slice h22 h with ⟨hcs, _⟩ | ⟨a, len, cap, m, k, D, Pl, hcs, hb, hl, hm, hmm, hx, hel⟩
  · simp at hcs
    obtain ⟨rfl, rfl, rfl⟩ := hcs
    exact ⟨by simp [maxLen], fun _ => 0, fun _ => 0, fun _ => .slice none 0 0, fun _ => none, fun k hk => absurd hk (by omega)⟩
  · simp at hcs
    obtain ⟨rfl, rfl, rfl⟩ := hcs
    refine ⟨by omega, ?_⟩
    have hlm : n ≤ m := by rw [hmm]; split <;> omega
    have each : ∀ i, i < n → ∃ q : Int × Int × Value × Option (List Int), w.cell? (a.add (i * 3)) = some (.int .i64 q.1) ∧ w.cell? (a.add (i * 3 + 1)) = some (.int .i64 q.2.1) ∧ w.cell? (a.add (i * 3 + 2)) = some q.2.2.1 ∧ SrcIs w q.2.2.1 q.2.2.2 := by
      intro i hi
      obtain ⟨cs', h1, h2⟩ := hel i (by omega)
      rw [ce] at h1
      obtain ⟨_, hlen, hcell⟩ := World.cells?_some h1
      obtain ⟨xs, k', hk, hxy, _, hxl, hf⟩ := DataW.trod_struct he h2
      match xs, hxl, cs', hlen with
      | [y0, y1, y2], _, [v0, v1, v2], _ =>
        have g0 := hf 0 f0 rfl
        have g1 := hf 1 f1 rfl
        have g2 := hf 2 f2 rfl
        rw [t0, c3, o0] at g0
        rw [t1, c3, o1] at g1
        rw [t2, c23, o2] at g2
        have e0 := hcell 0 (by omega)
        have e1 := hcell 1 (by omega)
        have e2 := hcell 2 (by omega)
        rw [add_add] at e0 e1 e2
        simp at g0 g1 g2 e0 e1 e2
        obtain ⟨s, hs, _⟩ := DataW.trod_int Yba.underlying3 g0
        obtain ⟨s', hs', _⟩ := DataW.trod_int Yba.underlying3 g1
        simp at hs hs'
        subst hs
        subst hs'
        have hDi : D i = .agg [y0.1, y1.1, y2.1] := by have := congrArg Prod.fst hxy; simpa using this
        obtain ⟨z, hz⟩ := src_of_trod g2 (fun q hq => by
          apply hw
          rw [hx]
          simp only [DataW.weights, h22, List.mem_cons, List.mem_append]
          refine .inr (.inl (mem_weightsAll (d := D i) (List.mem_map.2 ⟨i, List.mem_range.2 hi, rfl⟩) q ?_))
          rw [hDi]
          simp only [DataW.weights, he, List.map, DataW.weightsEach, List.mem_append, t2]
          exact .inr (.inr (.inl hq)))
        exact ⟨(s, s', v2, z), e0, e1, e2, hz⟩
    obtain ⟨q, hq⟩ := choose_lt each
    refine ⟨fun i => (q i).1, fun i => (q i).2.1, fun i => (q i).2.2.1, fun i => (q i).2.2.2, fun i hi => ?_⟩
    obtain ⟨b, off, spot⟩ := a
    obtain ⟨q0, q1, q2, q3⟩ := hq i hi
    have hspot : spot = none := by
      have := (hq 0 (by omega)).1
      simpa [Addr.add] using World.cell?_spot this
    subst hspot
    rw [add_plain] at q0 q1 q2
    exact ⟨b, off, rfl, cell_block q0, q0, by simpa [Nat.add_assoc] using q1, by simpa [Nat.add_assoc] using q2, q3⟩

end Go.Proofs.Ybulkexpec
