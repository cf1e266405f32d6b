/- LawS194114CWhole: (*Vars).SetAll (17). -/
import Derived.Test.YbulkexpbySet
import Derived.Deep.RegionWith
namespace Go.Proofs.Ybulkexpby
open Go.RowKit Go.PK Go.SM
set_option linter.unusedVariables false

theorem look_mem : ∀ {A : AL} {k : ByteArray} {v : Value}, SM.look A k = some v → (k, v) ∈ A
  | [], _, _, h => by cases h
  | p :: A, k, v, h => by
    by_cases e : p.1 = k
    · simp only [SM.look, if_pos e, Option.some.injEq] at h
      subst h
      subst e
      exact .head _
    · simp only [SM.look, if_neg e] at h
      exact .tail _ (look_mem h)
theorem put_mem : ∀ {A : AL} {k : ByteArray} {v : Value} {q : ByteArray × Value}, q ∈ put A k v → q ∈ A ∨ q = (k, v)
  | [], _, _, _, h => by simp [put] at h; exact .inr h
  | p :: A, k, v, q, h => by
    by_cases e : p.1 = k
    · simp only [put, if_pos e, List.mem_cons] at h
      rcases h with rfl | h
      · exact .inr rfl
      · exact .inl (.tail _ h)
    · simp only [put, if_neg e, List.mem_cons] at h
      rcases h with rfl | h
      · exact .inl (.head _)
      · exact (put_mem h).elim (fun e => .inl (.tail _ e)) .inr
theorem put_len (A : AL) (k : ByteArray) (v : Value) : (put A k v).length ≤ A.length + 1 := by
  induction A with
  | nil => simp [put]
  | cons p A ih => by_cases e : p.1 = k <;> simp [put, e]; omega
theorem Svs.put {A : AL} (h : Svs A) (k : ByteArray) (nb : Nat) (af : Int) : Svs (SM.put A k (svOf nb af)) := fun q hq => by
  rcases put_mem hq with h1 | rfl
  · exact h q h1
  · exact ⟨nb, af, rfl⟩

theorem set_any (vb B nl : Nat) (by_ : Int) (k : ByteArray) (p : Nat) (sv nv st sg fv : Value) (lp : Option Addr) (lc : Nat) (A F : AL) (w : World)
    (h : VarsAt w vb B sv nv (.slice lp nl lc) st sg fv by_ A F) (hnl : nl ≤ 100) (hs : Svs A) (hA : A.length ≤ 100000) (hB : B ≤ w.heap.size) :
    Calls Yba.prog 29 #[.pointer (some ⟨vb, 0, none⟩), .string k, .pointer (some ⟨p, 0, none⟩)] w fun e w' => e = .returned (.tuple #[]) ∧ ∃ sv' nv', VarsAt w' vb B sv' nv' (.slice lp nl lc) st sg fv by_ (put A k (svOf p nl)) (del F k) ∧
      Moved w w' (fun b => b = vb ∨ sv = .map (some b) ∨ nv.ownBlock = some b ∨ fv = .map (some b)) ∧ (∃ s, sv' = .map (some s) ∧ (sv = .map (some s) ∨ w.heap.size ≤ s)) ∧
      (nv'.ownBlock = nv.ownBlock ∨ ∃ q, nv'.ownBlock = some q ∧ w.heap.size ≤ q) := by
  rcases h.set with ⟨rfl, rfl⟩ | ⟨sm, rfl, _⟩
  · exact set_nil vb B nl by_ k p nv st sg fv lp lc [] F w h hnl rfl hA hB
  · cases hk : SM.look A k with
    | none => exact set_new vb B sm nl by_ k p nv st sg fv lp lc A F w h hnl hk hA hB
    | some v =>
      obtain ⟨nb, af, e⟩ := hs _ (look_mem hk)
      simp only at e
      subst e
      exact set_old vb B sm nb nl af by_ k p nv st sg fv lp lc A F w h hnl hk

def foldA (T : Nat → ByteArray) (C : Nat → Nat) (nl : Nat) (A : AL) : Nat → AL
  | 0 => A
  | j + 1 => put (foldA T C nl A j) (T (2 * j)) (svOf (C (2 * j + 1)) nl)
def foldF (T : Nat → ByteArray) (F : AL) : Nat → AL
  | 0 => F
  | j + 1 => del (foldF T F j) (T (2 * j))
theorem foldA_svs (T : Nat → ByteArray) (C : Nat → Nat) (nl : Nat) {A : AL} (h : Svs A) : ∀ j, Svs (foldA T C nl A j)
  | 0 => h
  | j + 1 => (foldA_svs T C nl h j).put _ _ _
theorem foldA_len (T : Nat → ByteArray) (C : Nat → Nat) (nl : Nat) (A : AL) : ∀ j, (foldA T C nl A j).length ≤ A.length + j
  | 0 => Nat.le_refl _
  | j + 1 => by
    have h1 := foldA_len T C nl A j
    have h2 := put_len (foldA T C nl A j) (T (2 * j)) (svOf (C (2 * j + 1)) nl)
    show (put _ _ _).length ≤ _
    omega

def nodeCells (kind : Int) (s : ByteArray) (cv : Value) : Array Value := #[.int .u32 kind, .int .u32 0, .string ByteArray.empty, .string s, .string ByteArray.empty, .pointer none, cv, .int .i64 0, .int .i64 0]
def ptr (b : Nat) : Value := .pointer (some ⟨b, 0, none⟩)

/-- The values node: its block, its content's row, its nodes. -/
structure RootAt (w : World) (rb m : Nat) (cp : Option Addr) (cc : Nat) (C : Nat → Nat) (T : Nat → ByteArray) : Prop where
  blk : w.heap[rb]? = some (.cells (nodeCells 2 ByteArray.empty (.slice cp m cc)) 49)
  row : ∀ i, i < m → ∃ g cur, cp = some ⟨g, 0, none⟩ ∧ w.heap[g]? = some (.cells cur 43) ∧ cur[i]? = some (ptr (C i))
  node : ∀ i, i < m → w.heap[C i]? = some (.cells (nodeCells 1 (T i) (.slice none 0 0)) 49)

/-- What holds of blocks of the nodes' kinds goes on to hold. -/
def Keeps (w w' : World) : Prop := ∀ (b : Nat) (cs : Array Value) (t : TypeId), t ≠ 66 → t ≠ 9 → w.heap[b]? = some (.cells cs t) → w'.heap[b]? = some (.cells cs t)

theorem RootAt.keep {w w' : World} {rb m : Nat} {cp : Option Addr} {cc : Nat} {C : Nat → Nat} {T : Nat → ByteArray} (h : RootAt w rb m cp cc C T) (hk : Keeps w w') : RootAt w' rb m cp cc C T :=
  ⟨hk _ _ _ (by decide) (by decide) h.blk, fun i hi => let ⟨g, cur, e, h1, h2⟩ := h.row i hi; ⟨g, cur, e, hk _ _ _ (by decide) (by decide) h1, h2⟩, fun i hi => hk _ _ _ (by decide) (by decide) (h.node i hi)⟩

theorem VarsAt.drew {w : World} {vb B : Nat} {sv nv lv st sg fv : Value} {by_ : Int} {A F : AL} (h : VarsAt w vb B sv nv lv st sg fv by_ A F) : VarsAt w.drew vb B sv nv lv st sg fv by_ A F := ⟨h.blk, h.set, h.names, h.found, h.apart⟩

theorem VarsAt.keeps {w w' : World} {vb B : Nat} {sv nv lv st sg fv : Value} {by_ : Int} {A F : AL} (h : VarsAt w vb B sv nv lv st sg fv by_ A F) (hM : Moved w w' (fun b => b = vb ∨ sv = .map (some b) ∨ nv.ownBlock = some b ∨ fv = .map (some b))) : Keeps w w' := by
  intro b cs t h1 h2 hb
  refine hM.blk hb ?_
  rintro (e | e | e | e)
  · subst e
    rw [h.blk] at hb
    cases hb
    exact h1 rfl
  · rcases h.set with ⟨e', _⟩ | ⟨s, e', hs⟩
    · rw [e'] at e; cases e
    · rw [e'] at e; cases e; exact hs.ne hb rfl
  · exact row_ne h.names e hb h2 rfl
  · rcases h.found with ⟨e', _⟩ | ⟨s, e', hs⟩
    · rw [e'] at e; cases e
    · rw [e'] at e; cases e; exact hs.ne hb rfl

set_option maxHeartbeats 2000000 in
set_option maxRecDepth 100000 in
theorem setAll_any (vb B nl rb m : Nat) (by_ : Int) (sv nv st sg fv : Value) (lp cp : Option Addr) (lc cc : Nat) (C : Nat → Nat) (T : Nat → ByteArray) (A F : AL) (w : World)
    (h : VarsAt w vb B sv nv (.slice lp nl lc) st sg fv by_ A F) (hr : RootAt w rb m cp cc C T) (hnl : nl ≤ 100) (hs : Svs A) (hA : A.length ≤ 20000) (hm : m ≤ 20000) (hB : B ≤ w.heap.size) :
    Calls Yba.prog 17 #[.pointer (some ⟨vb, 0, none⟩), .pointer (some ⟨rb, 0, none⟩)] w fun e w' => e = .returned (.tuple #[]) ∧ ∃ sv' nv', VarsAt w' vb B sv' nv' (.slice lp nl lc) st sg fv by_ (foldA T C nl A (m / 2)) (foldF T F (m / 2)) ∧
      Moved w w' (fun b => b = vb ∨ sv = .map (some b) ∨ nv.ownBlock = some b ∨ fv = .map (some b)) ∧ Keeps w w' ∧ (m / 2 = 0 → sv' = sv) := by
  go_enter Yba.func17, Yba.ntmps17
  go_wp2
  go_loopw [4] (fun i x => ∃ (j : Nat) (sv' nv' : Value), 2 * j ≤ m ∧ i = .int .i64 ((2 * j : Nat) : Int) ∧ VarsAt x vb B sv' nv' (.slice lp nl lc) st sg fv by_ (foldA T C nl A j) (foldF T F j) ∧
    Moved w x (fun b => b = vb ∨ sv = .map (some b) ∨ nv.ownBlock = some b ∨ fv = .map (some b)) ∧ Keeps w x ∧ (j = 0 → sv' = sv) ∧
    (∀ s, sv' = .map (some s) → sv = .map (some s) ∨ w.heap.size ≤ s) ∧ (∀ q, nv'.ownBlock = some q → nv.ownBlock = some q ∨ w.heap.size ≤ q)) (fun i _ => m - (intOf i).toNat)
  case atStart => exact ⟨0, sv, nv, by omega, rfl, h, Moved.refl _ _, fun _ _ _ _ _ hb => hb, fun _ => rfl, fun s e => .inl e, fun q e => .inl e⟩
  case round =>
    obtain ⟨j, sv1, nv1, hj, rfl, hv, hM, hK, h0, hl1, hl2⟩ := hrel
    have hr1 := hr.keep hK
    have hsz := hM.size
    have r6 : wr.cell? ⟨rb, 6, none⟩ = some (.slice cp m cc) := by rw [cell_of_row _ _ _ _ _ _ hr1.blk]; rfl
    by_cases hlt : 2 * j + 1 < m
    · obtain ⟨g, cur, hcp, hg, hgj⟩ := hr1.row (2 * j) (by omega)
      obtain ⟨g', cur', hcp', hg', hgj'⟩ := hr1.row (2 * j + 1) (by omega)
      subst hcp
      cases hcp'
      rw [hg] at hg'
      cases hg'
      have e1 : wr.cell? ⟨g, 0 + 2 * j, none⟩ = some (.pointer (some ⟨C (2 * j), 0, none⟩)) := by rw [cell_of_row _ _ _ _ _ _ hg, Nat.zero_add]; exact hgj
      have e2 : wr.cell? ⟨g, 0 + (2 * j + 1), none⟩ = some (.pointer (some ⟨C (2 * j + 1), 0, none⟩)) := by rw [cell_of_row _ _ _ _ _ _ hg, Nat.zero_add]; exact hgj'
      rw [Nat.zero_add] at e1 e2
      have e3 : wr.cell? ⟨C (2 * j), 3, none⟩ = some (.string (T (2 * j))) := by rw [cell_of_row _ _ _ _ _ _ (hr1.node (2 * j) (by omega))]; rfl
      have hset := set_any vb B nl by_ (T (2 * j)) (C (2 * j + 1)) sv1 nv1 st sg fv lp lc _ _ wr.drew hv.drew hnl (foldA_svs T C nl hs j) (by have := foldA_len T C nl A j; omega) (by show B ≤ wr.heap.size; omega)
      obtain ⟨J, hJ⟩ : ∃ J, J = 2 * j := ⟨_, rfl⟩
      rw [← hJ] at e1 e2 e3 hset
      rw [← hJ]
      have i0 : (J : Int) < (m : Int) := by omega
      have i1 : (J : Int) + 1 < (m : Int) := by omega
      have i2 : (J : Int) ≤ 20000 := by omega
      have iw : IntKind.i64.wrap ((J : Int) + 1) = ((J + 1 : Nat) : Int) := by rw [IntKind.wrap_i64]; omega
      have i3 : J + 1 < m := by omega
      have i4 : 0 ≤ (J : Int) + 1 := by omega
      have i5 : ((J : Int) + 1).toNat = J + 1 := by omega
      have i6 : ((J + 1 : Nat) : Int) < (m : Int) := by omega
      have hend : ∀ (x1 : World) (nv2 : Value) (s2 : Nat), VarsAt x1 vb B (.map (some s2)) nv2 (.slice lp nl lc) st sg fv by_ (put (foldA T C nl A j) (T J) (svOf (C (J + 1)) nl)) (del (foldF T F j) (T J)) →
          Moved wr.drew x1 (fun b => b = vb ∨ sv1 = .map (some b) ∨ nv1.ownBlock = some b ∨ fv = .map (some b)) → (sv1 = .map (some s2) ∨ wr.drew.heap.size ≤ s2) → (nv2.ownBlock = nv1.ownBlock ∨ ∃ q, nv2.ownBlock = some q ∧ wr.drew.heap.size ≤ q) →
          ∃ (j : Nat) (sv' nv' : Value), 2 * j ≤ m ∧ Value.int .i64 ((J : Int) + 2) = .int .i64 ((2 * j : Nat) : Int) ∧ VarsAt x1 vb B sv' nv' (.slice lp nl lc) st sg fv by_ (foldA T C nl A j) (foldF T F j) ∧
            Moved w x1 (fun b => b = vb ∨ sv = .map (some b) ∨ nv.ownBlock = some b ∨ fv = .map (some b)) ∧ Keeps w x1 ∧ (j = 0 → sv' = sv) ∧
            (∀ s, sv' = .map (some s) → sv = .map (some s) ∨ w.heap.size ≤ s) ∧ (∀ q, nv'.ownBlock = some q → nv.ownBlock = some q ∨ w.heap.size ≤ q) := by
        intro x1 nv2 s2 hv2 hM2 hs2 hn2
        have hszd : w.heap.size ≤ wr.drew.heap.size := hsz
        refine ⟨j + 1, .map (some s2), nv2, by omega, by congr 1; omega, by rw [hJ] at hv2; exact hv2, ?_, ?_, fun h => absurd h (by omega), ?_, ?_⟩
        · have hM' : Moved w wr.drew _ := ⟨hM.os, hM.tape, hM.output, hM.size, hM.block⟩
          refine hM'.trans hM2 ?_
          rintro i (e | e | e | e)
          · exact .inl (.inl e)
          · rcases hl1 i e with h | h
            · exact .inl (.inr (.inl h))
            · exact .inr h
          · rcases hl2 i e with h | h
            · exact .inl (.inr (.inr (.inl h)))
            · exact .inr h
          · exact .inl (.inr (.inr (.inr e)))
        · intro b cs t h1 h2 hb
          exact hv.drew.keeps hM2 b cs t h1 h2 (hK b cs t h1 h2 hb)
        · intro s e
          cases e
          rcases hs2 with h | h
          · exact hl1 _ h
          · exact .inr (by omega)
        · intro q e
          rcases hn2 with h | ⟨q', h, h'⟩
          · rw [h] at e; exact hl2 q e
          · rw [h] at e; cases e; exact .inr (by omega)
      clear hJ
      go_wp2
      go_region_with (go_at_call 29; refine hset.mono ?_; rintro e x1 ⟨rfl, sv2, nv2, hv2, hM2, ⟨s2, rfl, hs2⟩, hn2⟩)
      all_goals go_wp2
      all_goals exact ⟨hend x1 nv2 s2 hv2 hM2 hs2 hn2, by simp [intOf]; omega⟩
    · go_wp2
      go_end0
      obtain rfl : m / 2 = j := by omega
      exact ⟨rfl, sv1, nv1, hv, hM, hK, h0⟩

end Go.Proofs.Ybulkexpby
