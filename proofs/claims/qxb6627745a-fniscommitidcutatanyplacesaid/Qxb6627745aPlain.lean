namespace Go.Proofs.Qxb6627745a
/-- a lowercase hexadecimal digit -/
def hexB (n : Nat) : Bool := (decide (48 ≤ n) && decide (n ≤ 57)) || (decide (97 ≤ n) && decide (n ≤ 102))
def idL (l : List UInt8) : Bool := decide (l.length = 40) && l.all (fun b => hexB b.toNat)

theorem hexB_yes (n : Nat) (h : (48 ≤ n ∧ n ≤ 57) ∨ (97 ≤ n ∧ n ≤ 102)) : hexB n = true := by
  simp [hexB]; omega
theorem hexB_no (n : Nat) (h : ¬ ((48 ≤ n ∧ n ≤ 57) ∨ (97 ≤ n ∧ n ≤ 102))) : hexB n = false := by
  have : ¬ hexB n = true := by simp [hexB]; omega
  simpa using this
theorem hexB_cases (n : Nat) : (hexB n = true ∧ 48 ≤ n ∧ n ≤ 57) ∨ (hexB n = true ∧ 97 ≤ n ∧ n ≤ 102) ∨ (hexB n = false ∧ n < 48) ∨ (hexB n = false ∧ 57 < n ∧ n < 97) ∨ (hexB n = false ∧ 102 < n) := by
  rcases Nat.lt_or_ge n 48 with h | h
  · exact .inr (.inr (.inl ⟨hexB_no n (by omega), h⟩))
  rcases Nat.lt_or_ge 57 n with h2 | h2
  · rcases Nat.lt_or_ge n 97 with h3 | h3
    · exact .inr (.inr (.inr (.inl ⟨hexB_no n (by omega), h2, h3⟩)))
    · rcases Nat.lt_or_ge 102 n with h4 | h4
      · exact .inr (.inr (.inr (.inr ⟨hexB_no n (by omega), h4⟩)))
      · exact .inr (.inl ⟨hexB_yes n (by omega), h3, h4⟩)
  · exact .inl ⟨hexB_yes n (by omega), h, h2⟩

theorem idL_one (x y : List UInt8) (c : UInt8) : idL (x ++ [c] ++ y) = (idL (x ++ [48] ++ y) && idL (List.replicate 40 c)) := by
  have h0 : hexB (48 : UInt8).toNat = true := by decide
  simp only [idL, List.length_append, List.length_cons, List.length_nil, List.all_append, List.all_cons, List.all_nil, h0, Bool.and_true, List.length_replicate, decide_true, Bool.true_and]
  have : (List.replicate 40 c).all (fun b => hexB b.toNat) = hexB c.toNat := by simp
  rw [this]
  generalize x.all _ = a
  generalize y.all _ = b
  generalize hexB c.toNat = d
  cases a <;> cases b <;> cases d <;> simp
theorem idL_run (c : UInt8) : idL (List.replicate 40 c) = hexB c.toNat := by simp [idL]
theorem idL_cut (x y : List UInt8) (k m : Nat) (h : x.length + y.length = 40) (hk : k = 40 - x.length) (hm : m = 40 - y.length) :
    idL (x ++ y) = (idL (x ++ List.replicate k 48) && idL (List.replicate m 48 ++ y)) := by
  have h0 : hexB (48 : UInt8).toNat = true := by decide
  have e1 : x.length + k = 40 := by omega
  have e2 : m + y.length = 40 := by omega
  have e3 : ∀ n, (List.replicate n (48 : UInt8)).all (fun b => hexB b.toNat) = true := fun n => by simp only [List.all_replicate, h0]; split <;> rfl
  simp only [idL, List.length_append, List.length_replicate, h, e1, e2, decide_true, Bool.true_and, List.all_append, e3, Bool.and_true]
theorem idL_len (l : List UInt8) (h : l.length ≠ 40) : idL l = false := by simp [idL, h]

def cntHex : Nat → Nat
  | 0 => 0
  | k + 1 => cntHex k + (if hexB k then 1 else 0)
theorem cntHex_le (k : Nat) : cntHex k ≤ k := by
  induction k with
  | zero => simp [cntHex]
  | succ k ih => simp only [cntHex]; split <;> omega
set_option maxRecDepth 100000 in
theorem cntHex_all : cntHex 256 = 16 := by decide +kernel
end Go.Proofs.Qxb6627745a
