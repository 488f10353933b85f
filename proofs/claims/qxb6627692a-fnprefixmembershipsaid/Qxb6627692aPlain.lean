namespace Go.Proofs.Qxb6627692a
/-- the bytewise order -/
def cmpL : List Int → List Int → Int
  | [], [] => 0
  | [], _ :: _ => -1
  | _ :: _, [] => 1
  | a :: as, b :: bs => if a < b then -1 else if b < a then 1 else cmpL as bs
/-- does 'p' lie at the head of 's'? -/
def preL : List Int → List Int → Bool
  | _, [] => true
  | [], _ :: _ => false
  | a :: as, b :: bs => a == b && preL as bs
/-- the end of the range, at the cut 'k' -/
def endL (xs : List Int) (k : Nat) : List Int := match k with
  | 0 => []
  | k + 1 => xs.take k ++ [xs.getD k 0 + 1]

theorem pre_full (ys xs : List Int) (hx : ∀ j, j < xs.length → xs.getD j 0 = 255) (hy : ∀ y ∈ ys, y ≤ 255) :
    (0 ≤ cmpL ys xs) ↔ preL ys xs = true := by
  induction xs generalizing ys with
  | nil => cases ys <;> simp [cmpL, preL]
  | cons a as ih =>
    have ha : a = 255 := by simpa using hx 0 (by simp)
    subst ha
    cases ys with
    | nil => simp [cmpL, preL]
    | cons y ys =>
      have hy0 : y ≤ 255 := hy y (by simp)
      have := ih ys (fun j hj => by simpa using hx (j + 1) (by simp; omega)) (fun y h => hy y (by simp [h]))
      by_cases h : y < 255
      · have : ¬ y = 255 := by omega
        simp [cmpL, preL, h, this]
      · obtain rfl : y = 255 := by omega
        simp [cmpL, preL, this]

theorem pre_cut (ys xs : List Int) (k : Nat) (hk : k + 1 ≤ xs.length) (hx : ∀ j, k + 1 ≤ j → j < xs.length → xs.getD j 0 = 255) (_hn : xs.getD k 0 ≠ 255) (hy : ∀ y ∈ ys, y ≤ 255) :
    (0 ≤ cmpL ys xs ∧ cmpL ys (endL xs (k + 1)) < 0) ↔ preL ys xs = true := by
  induction xs generalizing ys k with
  | nil => simp at hk
  | cons a as ih =>
    cases ys with
    | nil => simp [cmpL, preL]
    | cons y ys =>
      have hy' : ∀ y ∈ ys, y ≤ 255 := fun y h => hy y (by simp [h])
      cases k with
      | zero =>
        have hf := pre_full ys as (fun j hj => by simpa using hx (j + 1) (by omega) (by simp; omega)) hy'
        by_cases h1 : y < a
        · have : ¬ y = a := by omega
          simp [cmpL, preL, h1, this]
        · by_cases h2 : a < y
          · have e1 : ¬ y = a := by omega
            have e2 : ¬ y < a + 1 := by omega
            simp [cmpL, preL, endL, h1, h2, e1, e2]
            by_cases h3 : a + 1 < y
            · simp [h3]
            · simp [h3]; cases ys <;> simp [cmpL]
          · obtain rfl : y = a := by omega
            have : y < y + 1 := by omega
            simp [cmpL, preL, endL, this, hf]
      | succ k =>
        have hr := ih ys k (by simp at hk; omega) (fun j h1 h2 => by simpa using hx (j + 1) (by omega) (by simp; omega)) (by simpa using _hn) hy'
        have he : endL (a :: as) (k + 1 + 1) = a :: endL as (k + 1) := by simp [endL]
        rw [he]
        by_cases h1 : y < a
        · have : ¬ y = a := by omega
          simp [cmpL, preL, h1, this]
        · by_cases h2 : a < y
          · have e1 : ¬ y = a := by omega
            simp [cmpL, preL, h1, h2, e1]
          · obtain rfl : y = a := by omega
            simp only [cmpL, preL]
            simpa using hr

theorem drop_at (xs : List Int) (k : Nat) (h : k < xs.length) : xs.drop k = xs.getD k 0 :: xs.drop (k + 1) := by
  rw [List.drop_eq_getElem_cons h]; simp [List.getD, List.getElem?_eq_getElem h]
theorem cmp_step (xs ys : List Int) (k : Nat) (h1 : k < xs.length) (h2 : k < ys.length) :
    cmpL (xs.drop k) (ys.drop k) = if xs.getD k 0 < ys.getD k 0 then -1 else if ys.getD k 0 < xs.getD k 0 then 1 else cmpL (xs.drop (k + 1)) (ys.drop (k + 1)) := by
  rw [drop_at xs k h1, drop_at ys k h2, cmpL]
theorem cmp_end (xs ys : List Int) (k : Nat) (h : xs.length ≤ k ∨ ys.length ≤ k) (h1 : k ≤ xs.length) (h2 : k ≤ ys.length) :
    cmpL (xs.drop k) (ys.drop k) = if xs.length < ys.length then -1 else if ys.length < xs.length then 1 else 0 := by
  rcases h with h | h
  · have e : k = xs.length := by omega
    subst e
    rw [List.drop_length]
    by_cases hl : xs.length < ys.length
    · rw [drop_at ys _ hl]; simp [cmpL, hl]
    · have : ys.length = xs.length := by omega
      rw [List.drop_of_length_le (by omega)]; simp [cmpL, this]
  · have e : k = ys.length := by omega
    subst e
    rw [List.drop_length]
    by_cases hl : ys.length < xs.length
    · rw [drop_at xs _ hl]
      have : ¬ xs.length < ys.length := by omega
      simp [cmpL, hl, this]
    · have : ys.length = xs.length := by omega
      rw [List.drop_of_length_le (by omega)]; simp [cmpL, this]
theorem pre_step (ys xs : List Int) (k : Nat) (h1 : k < ys.length) (h2 : k < xs.length) :
    preL (ys.drop k) (xs.drop k) = (ys.getD k 0 == xs.getD k 0 && preL (ys.drop (k + 1)) (xs.drop (k + 1))) := by
  rw [drop_at ys k h1, drop_at xs k h2, preL]
theorem pre_end (ys xs : List Int) (k : Nat) (h : xs.length ≤ k) : preL (ys.drop k) (xs.drop k) = true := by
  rw [List.drop_of_length_le h]; cases ys.drop k <;> rfl
theorem pre_short (ys xs : List Int) (h : ys.length < xs.length) : preL ys xs = false := by
  induction xs generalizing ys with
  | nil => simp at h
  | cons x xs ih => cases ys with
    | nil => rfl
    | cons y ys => simp [preL, ih ys (by simpa using h)]
end Go.Proofs.Qxb6627692a
