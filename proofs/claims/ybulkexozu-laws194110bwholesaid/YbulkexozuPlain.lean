/- LawS194110BWhole: entries and the table of heads, plain. -/
import Derived.Test.YbulkexozuMaps
namespace Go.Proofs.Ybulkexozu
open Go.SM

structure Ent where
  db : ByteArray
  br : ByteArray
  cm : List Value
  wk : List Value
  only : Bool

def Bytes (cs : List Value) : Prop := ∀ v ∈ cs, ∃ x : Int, v = .int .u8 x
def Ent.cells (e : Ent) : List Value := .string e.db :: .string e.br :: (e.cm ++ (e.wk ++ [.bool e.only]))
structure Ent.Ok (e : Ent) : Prop where
  cm : e.cm.length = 20
  wk : e.wk.length = 20
  bc : Bytes e.cm
  bw : Bytes e.wk
def Ent.hdl (e : Ent) : List Value := e.cm ++ e.wk
def Ent.hd (e : Ent) : Value := .agg e.hdl.toArray
def zl : List Value := List.replicate 40 (.int .u8 0)
def zhd : Value := .agg zl.toArray
def IsHd (v : Value) : Prop := ∃ cs : List Value, v = .agg cs.toArray ∧ cs.length = 40 ∧ Bytes cs

theorem Bytes.append {a b : List Value} (ha : Bytes a) (hb : Bytes b) : Bytes (a ++ b) := fun v hv => by
  rcases List.mem_append.1 hv with h | h
  · exact ha v h
  · exact hb v h
theorem Bytes.one {a : List Value} (h : Bytes a) : ∀ v ∈ a, v.oneCell' = true := fun v hv => by
  obtain ⟨x, rfl⟩ := h v hv
  rfl
theorem Ent.Ok.hd {e : Ent} (h : e.Ok) : IsHd e.hd := ⟨e.hdl, rfl, by simp [Ent.hdl, h.cm, h.wk], h.bc.append h.bw⟩
theorem isHd_zero : IsHd zhd := ⟨zl, rfl, rfl, fun _ hv => ⟨0, List.eq_of_mem_replicate hv⟩⟩

def Ent.Hits (e : Ent) (db br : ByteArray) : Prop := e.only = false ∧ e.db = db ∧ e.br = br
def lastv (E : Nat → Ent) (db br : ByteArray) : Nat → Option Value
  | 0 => none
  | n + 1 => if (E n).only = false ∧ (E n).db = db ∧ (E n).br = br then some (E n).hd else lastv E db br n
def headv (E : Nat → Ent) (db br : ByteArray) (n : Nat) : Value := (lastv E db br n).getD zhd

theorem lastv_hit {E : Nat → Ent} {db br : ByteArray} {n : Nat} (h : (E n).Hits db br) : lastv E db br (n + 1) = some (E n).hd := by
  exact if_pos h
theorem lastv_miss {E : Nat → Ent} {db br : ByteArray} {n : Nat} (h : ¬ (E n).Hits db br) : lastv E db br (n + 1) = lastv E db br n := by
  exact if_neg h
theorem lastv_hd {E : Nat → Ent} {db br : ByteArray} : ∀ {n : Nat}, (∀ i, i < n → (E i).Ok) → ∀ v, lastv E db br n = some v → IsHd v
  | 0, _, v, h => by cases h
  | n + 1, ho, v, h => by
    by_cases hh : (E n).Hits db br
    · rw [lastv_hit hh] at h
      cases h
      exact (ho n (by omega)).hd
    · rw [lastv_miss hh] at h
      exact lastv_hd (fun i hi => ho i (by omega)) v h
theorem headv_hd {E : Nat → Ent} {db br : ByteArray} {n : Nat} (ho : ∀ i, i < n → (E i).Ok) : IsHd (headv E db br n) := by
  unfold headv
  cases h : lastv E db br n with
  | none => exact isHd_zero
  | some v => exact lastv_hd ho v h

def upd (S : ByteArray → AL) (e : Ent) : ByteArray → AL := fun k => if k = e.db ∧ e.only = false then put (S k) e.br e.hd else S k
def tab (E : Nat → Ent) : Nat → ByteArray → AL
  | 0 => fun _ => []
  | n + 1 => upd (tab E n) (E n)

theorem look_put : ∀ (A : AL) (k k' : ByteArray) (v : Value), SM.look (put A k v) k' = if k = k' then some v else SM.look A k'
  | [], k, k', v => by by_cases h : k = k' <;> simp [put, SM.look, h]
  | p :: A, k, k', v => by
    have ih := look_put A k k' v
    by_cases h : p.1 = k
    · simp only [put, if_pos h, SM.look]
      by_cases h' : k = k'
      · simp [h']
      · rw [if_neg h', if_neg h', if_neg (by rw [h]; exact h')]
    · simp only [put, if_neg h, SM.look]
      by_cases h' : p.1 = k'
      · rw [if_pos h', if_pos h', if_neg (fun e => h (h'.trans e.symm))]
      · rw [if_neg h', if_neg h', ih]

theorem look_put_same (A : AL) (k : ByteArray) (v : Value) : SM.look (put A k v) k = some v := by rw [look_put, if_pos rfl]
theorem look_put_other (A : AL) {k k' : ByteArray} (v : Value) (h : k ≠ k') : SM.look (put A k v) k' = SM.look A k' := by rw [look_put, if_neg h]

theorem tab_look (E : Nat → Ent) (db br : ByteArray) : ∀ n, SM.look (tab E n db) br = lastv E db br n
  | 0 => rfl
  | n + 1 => by
    have ih := tab_look E db br n
    show SM.look (if db = (E n).db ∧ (E n).only = false then put (tab E n db) (E n).br (E n).hd else tab E n db) br = _
    by_cases hh : (E n).Hits db br
    · obtain ⟨h1, h2, h3⟩ := hh
      rw [lastv_hit ⟨h1, h2, h3⟩, if_pos ⟨h2.symm, h1⟩, look_put, if_pos h3]
    · rw [lastv_miss hh]
      by_cases hc : db = (E n).db ∧ (E n).only = false
      · rw [if_pos hc, look_put_other _ _ (fun e => hh ⟨hc.2, hc.1.symm, e⟩), ih]
      · rw [if_neg hc, ih]

theorem len_put (A : AL) (k : ByteArray) (v : Value) : (put A k v).length ≤ A.length + 1 := by
  induction A with
  | nil => simp [put]
  | cons p A ih => by_cases e : p.1 = k <;> simp [put, e]; omega
theorem tab_len (E : Nat → Ent) (db : ByteArray) : ∀ n, (tab E n db).length ≤ n
  | 0 => Nat.le_refl _
  | n + 1 => by
    have ih := tab_len E db n
    show List.length (if db = (E n).db ∧ (E n).only = false then put (tab E n db) (E n).br (E n).hd else tab E n db) ≤ _
    split
    · have := len_put (tab E n db) (E n).br (E n).hd
      omega
    · omega
end Go.Proofs.Ybulkexozu
