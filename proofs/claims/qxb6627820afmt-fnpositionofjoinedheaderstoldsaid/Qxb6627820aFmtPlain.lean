import Derived.Test.Qxb6627820aFmtCopy
namespace Go.Proofs.Qxb6627820aFmt
open Go.RowKit

/-- no name is the column -/
def No (xs : List ByteArray) (col : ByteArray) (n : Nat) : Prop := ∀ i, i < n → st xs i ≠ col
/-- one name, at 'f', is the column -/
def One (xs : List ByteArray) (col : ByteArray) (n f : Nat) : Prop := f < n ∧ st xs f = col ∧ ∀ i, i < n → i ≠ f → st xs i ≠ col
/-- the first two names that are the column stand at 'f' and 'm' -/
def Two (xs : List ByteArray) (col : ByteArray) (n f m : Nat) : Prop := f < m ∧ m < n ∧ st xs f = col ∧ st xs m = col ∧ ∀ i, i < m → i ≠ f → st xs i ≠ col

theorem classes (xs : List ByteArray) (col : ByteArray) (n : Nat) : No xs col n ∨ (∃ f, One xs col n f) ∨ ∃ f m, Two xs col n f m := by
  induction n with
  | zero => exact .inl fun i hi => by omega
  | succ n ih =>
    by_cases h : st xs n = col
    · rcases ih with h0 | ⟨f, h1, h2, h3⟩ | ⟨f, m, h1, h2, h3⟩
      · exact .inr (.inl ⟨n, by omega, h, fun i hi hne => h0 i (by omega)⟩)
      · exact .inr (.inr ⟨f, n, h1, by omega, h2, h, h3⟩)
      · exact .inr (.inr ⟨f, m, h1, by omega, h3⟩)
    · rcases ih with h0 | ⟨f, h1, h2, h3⟩ | ⟨f, m, h1, h2, h3⟩
      · refine .inl fun i hi => ?_
        by_cases hin : i = n
        · rw [hin]; exact h
        · exact h0 i (by omega)
      · refine .inr (.inl ⟨f, by omega, h2, fun i hi hne => ?_⟩)
        by_cases hin : i = n
        · rw [hin]; exact h
        · exact h3 i (by omega) hne
      · exact .inr (.inr ⟨f, m, h1, by omega, h3⟩)

/-- the first match is at 'f', the last at 'l' -/
def Ends (xs : List ByteArray) (col : ByteArray) (n f l : Nat) : Prop := f < n ∧ l < n ∧ st xs f = col ∧ st xs l = col ∧ (∀ i, i < f → st xs i ≠ col) ∧ ∀ i, l < i → i < n → st xs i ≠ col
theorem One.ends {xs : List ByteArray} {col : ByteArray} {n f : Nat} (h : One xs col n f) : Ends xs col n f f :=
  ⟨h.1, h.1, h.2.1, h.2.1, fun i hi => h.2.2 i (by have := h.1; omega) (by omega), fun i h1 h2 => h.2.2 i h2 (by omega)⟩
theorem last_of {xs : List ByteArray} {col : ByteArray} {n m : Nat} (hm : m < n) (h : st xs m = col) : ∃ l, m ≤ l ∧ l < n ∧ st xs l = col ∧ ∀ i, l < i → i < n → st xs i ≠ col := by
  induction n with
  | zero => omega
  | succ n ih =>
    by_cases hn : st xs n = col
    · exact ⟨n, by omega, by omega, hn, fun i h1 h2 => by omega⟩
    · have : m ≠ n := fun e => hn (e ▸ h)
      obtain ⟨l, h1, h2, h3, h4⟩ := ih (by omega)
      refine ⟨l, h1, by omega, h3, fun i hi hi2 => ?_⟩
      by_cases hin : i = n
      · rw [hin]; exact hn
      · exact h4 i hi (by omega)
theorem Two.ends {xs : List ByteArray} {col : ByteArray} {n f m : Nat} (h : Two xs col n f m) : ∃ l, f < l ∧ Ends xs col n f l := by
  obtain ⟨h1, h2, h3, h4, h5⟩ := h
  obtain ⟨l, h6, h7, h8, h9⟩ := last_of h2 h4
  exact ⟨l, by omega, by omega, h7, h3, h8, fun i hi => h5 i (by omega) (by omega), h9⟩

/-! the joined list -/
theorem st_left (xs ys : List ByteArray) (n i : Nat) (hx : xs.length = n) (hi : i < n) : st (xs ++ ys) i = st xs i := by
  simp [st, List.getD, List.getElem?_append_left (show i < xs.length by omega)]
theorem st_right (xs ys : List ByteArray) (n i : Nat) (hx : xs.length = n) : st (xs ++ ys) (n + i) = st ys i := by
  simp [st, List.getD, List.getElem?_append_right (show xs.length ≤ n + i by omega), hx]
theorem st_split (xs ys : List ByteArray) (n k i : Nat) (hx : xs.length = n) (hi : i < n + k) : (i < n ∧ st (xs ++ ys) i = st xs i) ∨ ∃ j, i = n + j ∧ j < k ∧ st (xs ++ ys) i = st ys j := by
  by_cases h : i < n
  · exact .inl ⟨h, st_left xs ys n i hx h⟩
  · obtain ⟨j, rfl⟩ : ∃ j, i = n + j := ⟨i - n, by omega⟩
    exact .inr ⟨j, rfl, by omega, st_right xs ys n j hx⟩

theorem join_no_no {xs ys : List ByteArray} {col : ByteArray} {n k : Nat} (hx : xs.length = n) (h : No xs col n) (g : No ys col k) : No (xs ++ ys) col (n + k) := fun i hi => by
  rcases st_split xs ys n k i hx hi with ⟨h1, e⟩ | ⟨j, rfl, h1, e⟩
  · rw [e]; exact h i h1
  · rw [e]; exact g j h1
theorem join_one_no {xs ys : List ByteArray} {col : ByteArray} {n k f : Nat} (hx : xs.length = n) (h : One xs col n f) (g : No ys col k) : One (xs ++ ys) col (n + k) f := by
  refine ⟨by have := h.1; omega, (st_left xs ys n f hx h.1).trans h.2.1, fun i hi hne => ?_⟩
  rcases st_split xs ys n k i hx hi with ⟨h1, e⟩ | ⟨j, rfl, h1, e⟩
  · rw [e]; exact h.2.2 i h1 hne
  · rw [e]; exact g j h1
theorem join_no_one {xs ys : List ByteArray} {col : ByteArray} {n k f : Nat} (hx : xs.length = n) (h : No xs col n) (g : One ys col k f) : One (xs ++ ys) col (n + k) (n + f) := by
  refine ⟨by have := g.1; omega, (st_right xs ys n f hx).trans g.2.1, fun i hi hne => ?_⟩
  rcases st_split xs ys n k i hx hi with ⟨h1, e⟩ | ⟨j, rfl, h1, e⟩
  · rw [e]; exact h i h1
  · rw [e]; exact g.2.2 j h1 (by omega)
theorem join_one_first {xs ys : List ByteArray} {col : ByteArray} {n k f g : Nat} (hx : xs.length = n) (h : One xs col n f) (hg : g < k) (e1 : st ys g = col) (e2 : ∀ i, i < g → st ys i ≠ col) : Two (xs ++ ys) col (n + k) f (n + g) := by
  have hf := h.1
  refine ⟨by omega, by omega, (st_left xs ys n f hx h.1).trans h.2.1, (st_right xs ys n g hx).trans e1, fun i hi hne => ?_⟩
  rcases st_split xs ys n g i hx hi with ⟨h1, e⟩ | ⟨j, rfl, h1, e⟩
  · rw [e]; exact h.2.2 i h1 hne
  · rw [e]; exact e2 j h1
theorem join_two {xs ys : List ByteArray} {col : ByteArray} {n k f m : Nat} (hx : xs.length = n) (h : Two xs col n f m) : Two (xs ++ ys) col (n + k) f m := by
  obtain ⟨h1, h2, h3, h4, h5⟩ := h
  exact ⟨h1, by omega, (st_left xs ys n f hx (by omega)).trans h3, (st_left xs ys n m hx h2).trans h4, fun i hi hne => by rw [st_left xs ys n i hx (by omega)]; exact h5 i hi hne⟩
theorem join_no_two {xs ys : List ByteArray} {col : ByteArray} {n k f m : Nat} (hx : xs.length = n) (h : No xs col n) (g : Two ys col k f m) : Two (xs ++ ys) col (n + k) (n + f) (n + m) := by
  obtain ⟨h1, h2, h3, h4, h5⟩ := g
  refine ⟨by omega, by omega, (st_right xs ys n f hx).trans h3, (st_right xs ys n m hx).trans h4, fun i hi hne => ?_⟩
  rcases st_split xs ys n m i hx hi with ⟨h1, e⟩ | ⟨j, rfl, h1, e⟩
  · rw [e]; exact h i h1
  · rw [e]; exact h5 j h1 (by omega)
end Go.Proofs.Qxb6627820aFmt
