import Derived.Test.Qxb6627777aParts
import Derived.Maps.Own
import Derived.Maps.OwnOps
import Derived.Maps.OwnSet
import Derived.Maps.Views
namespace Go.Proofs.Qxb6627777a
open Go.RowKit Go.Maps

/-- a binding, as the walk knows it -/
structure Bd where
  id : ByteArray
  key : List Value
  rev : Bool
def Bd.zero : Bd := ⟨ByteArray.empty, zkey, false⟩
def bd (B : List Bd) (i : Nat) : Bd := B.getD i Bd.zero
theorem bd_append_lt (B C : List Bd) (i : Nat) (h : i < B.length) : bd (B ++ C) i = bd B i := by simp [bd, List.getD, List.getElem?_append_left h]
theorem bd_append_at (B : List Bd) (b : Bd) : bd (B ++ [b]) B.length = b := by simp [bd, List.getD]

def keyL (s : ByteArray) : Lit := .string s.data.toList
theorem keyL_inj {s t : ByteArray} (h : keyL s = keyL t) : s = t := by
  simp only [keyL, Lit.string.injEq] at h
  obtain ⟨⟨a⟩⟩ := s
  obtain ⟨⟨b⟩⟩ := t
  simp at h
  rw [h]
theorem keyL_ok (s : ByteArray) : WideAt.IsKeyLit (keyL s) := by
  simp [WideAt.IsKeyLit, keyL]

def Dm (B : List Bd) : Nat → DataW Unit
  | 0 => .map []
  | k + 1 => (Dm B k).put (keyL (bd B k).id) (.lit (.int .u64 k))
def lastI (B : List Bd) (s : ByteArray) : Nat → Option Nat
  | 0 => none
  | k + 1 => if (bd B k).id = s then some k else lastI B s k

theorem Dm_isMap (B : List Bd) : ∀ k, IsMap (Dm B k)
  | 0 => isMap_empty
  | k + 1 => (Dm_isMap B k).put _ _
theorem Dm_has (B : List Bd) (s : ByteArray) : ∀ k, Maps.has (Dm B k) (keyL s) = (lastI B s k).isSome
  | 0 => rfl
  | k + 1 => by
    simp only [Dm, lastI]
    by_cases h : (bd B k).id = s
    · rw [if_pos h, h, has_put_same (Dm_isMap B k) (keyL_ok s)]; rfl
    · rw [if_neg h, has_put_other (fun e => h (keyL_inj e).symm)]
      exact Dm_has B s k
theorem Dm_at (B : List Bd) (s : ByteArray) (z : DataW Unit) : ∀ k i, lastI B s k = some i → (Dm B k).atKey (keyL s) z = .lit (.int .u64 i)
  | 0, i, h => by simp [lastI] at h
  | k + 1, i, h => by
    simp only [Dm]
    simp only [lastI] at h
    by_cases e : (bd B k).id = s
    · rw [if_pos e] at h
      obtain rfl := Option.some.inj h
      rw [e, atKey_put_same (Dm_isMap B k) (keyL_ok s)]
    · rw [if_neg e] at h
      rw [atKey_put_other (fun x => e (keyL_inj x).symm)]
      exact Dm_at B s z k i h

theorem lastI_some (B : List Bd) (s : ByteArray) : ∀ k i, lastI B s k = some i → i < k ∧ (bd B i).id = s
  | 0, i, h => by simp [lastI] at h
  | k + 1, i, h => by
    simp only [lastI] at h
    by_cases e : (bd B k).id = s
    · rw [if_pos e] at h
      obtain rfl := Option.some.inj h
      exact ⟨Nat.lt_succ_self _, e⟩
    · rw [if_neg e] at h
      have := lastI_some B s k i h
      exact ⟨by omega, this.2⟩
theorem lastI_none (B : List Bd) (s : ByteArray) : ∀ k, lastI B s k = none → ∀ j, j < k → (bd B j).id ≠ s
  | 0, _, j, hj => by omega
  | k + 1, h, j, hj => by
    simp only [lastI] at h
    by_cases e : (bd B k).id = s
    · rw [if_pos e] at h; cases h
    · rw [if_neg e] at h
      rcases Nat.lt_or_ge j k with hl | hl
      · exact lastI_none B s k h j hl
      · obtain rfl : j = k := by omega
        exact e
theorem lastI_ge (B : List Bd) (s : ByteArray) : ∀ k j, j < k → (bd B j).id = s → ∃ i, lastI B s k = some i ∧ j ≤ i
  | 0, j, hj, _ => by omega
  | k + 1, j, hj, e => by
    simp only [lastI]
    by_cases x : (bd B k).id = s
    · exact ⟨k, if_pos x, by omega⟩
    · rw [if_neg x]
      have : j ≠ k := fun h => x (h ▸ e)
      exact lastI_ge B s k j (by omega) e
theorem lastI_append (B C : List Bd) (s : ByteArray) : ∀ k, k ≤ B.length → lastI (B ++ C) s k = lastI B s k
  | 0, _ => rfl
  | k + 1, h => by
    simp only [lastI]
    rw [bd_append_lt B C k (by omega), lastI_append B C s k (by omega)]
theorem Dm_append (B C : List Bd) : ∀ k, k ≤ B.length → Dm (B ++ C) k = Dm B k
  | 0, _ => rfl
  | k + 1, h => by
    simp only [Dm]
    rw [bd_append_lt B C k (by omega), Dm_append B C k (by omega)]

/-- the registry's row after 'k' bindings -/
def bc (B : List Bd) (i : Nat) : List Value := bcells (bd B i).id (bd B i).key i (bd B i).rev
def rowL (B : List Bd) : Nat → List Value
  | 0 => []
  | k + 1 => rowL B k ++ bc B k
def Keys32 (B : List Bd) : Prop := ∀ i, Key (bd B i).key
theorem bc_len {B : List Bd} (h : Keys32 B) (i : Nat) : (bc B i).length = 35 := bcells_len _ _ _ _ (h i).1
theorem rowL_len {B : List Bd} (h : Keys32 B) : ∀ k, (rowL B k).length = k * 35
  | 0 => rfl
  | k + 1 => by rw [rowL, List.length_append, rowL_len h k, bc_len h k]; omega
theorem rowL_get {B : List Bd} (h : Keys32 B) : ∀ k i j, i < k → j < 35 → (rowL B k)[i * 35 + j]? = (bc B i)[j]?
  | 0, i, j, hi, _ => by omega
  | k + 1, i, j, hi, hj => by
    rw [rowL]
    have hl := rowL_len h k
    rcases Nat.lt_or_ge i k with hk | hk
    · rw [List.getElem?_append_left (by omega)]
      exact rowL_get h k i j hk hj
    · obtain rfl : i = k := by omega
      rw [List.getElem?_append_right (by omega), hl]
      congr 1
      omega
theorem bc_append (B C : List Bd) (i : Nat) (h : i < B.length) : bc (B ++ C) i = bc B i := by simp only [bc, bd_append_lt B C i h]
theorem rowL_append (B C : List Bd) : ∀ k, k ≤ B.length → rowL (B ++ C) k = rowL B k
  | 0, _ => rfl
  | k + 1, h => by rw [rowL, rowL, bc_append B C k (by omega), rowL_append B C k (by omega)]
theorem bc_one {B : List Bd} (h : Keys32 B) (i : Nat) : ∀ v ∈ bc B i, v.oneCell' = true := by
  intro v hv
  simp only [bc, bcells, List.mem_cons, List.mem_append, List.not_mem_nil, or_false] at hv
  rcases hv with rfl | hv | rfl | rfl
  · rfl
  · exact (h i).one v hv
  · rfl
  · rfl
end Go.Proofs.Qxb6627777a
