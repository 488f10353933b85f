import Derived.Test.Qxb6627820aFmtParts
namespace Go.Proofs.Qxb6627820aFmt
open Go.RowKit
open Go.Extern.Stop Go.Stop Go.Extern
attribute [local go_sem] Tryf.call9 Tryf.guard Tryf.fmt0 Tryf.fmt0r Tryf.op9 Tryf.op9w Tryf.ptr33 Tryf.elem33 Tryf.isError33'

theorem beq_no {x y : ByteArray} (h : x ≠ y) : (x.toList == y.toList) = false := by
  simp only [beq_eq_false_iff_ne, ne_eq, ByteArray.toList_eq]
  intro e
  apply h
  cases x; cases y
  simp only [ByteArray.mk.injEq]
  exact Array.toList_inj.1 e
theorem beq_yes {x y : ByteArray} (h : x = y) : (x.toList == y.toList) = true := by
  subst h; simp

set_option maxHeartbeats 400000 in
theorem pos_none (a : Option Addr) (n c : Nat) (xs : List ByteArray) (col : ByteArray) (w : World) (hn : n ≤ 1048576) (h : At w a n xs) (hno : ∀ i, i < n → st xs i ≠ col) :
    Calls Tryf.prog 6 #[.slice a n c, .string col] w fun e w' => e = .returned (.tuple #[.int .i64 (-1), .nilIface]) ∧ w = w' := by
  rcases Nat.eq_zero_or_pos n with h0 | h0
  · subst h0
    go_enter Tryf.func6, Tryf.ntmps6
    go_wp2
    refine wp_loop_rounds 1 ?_
    rw [rounds_succ]
    go_wp2
    go_ret2
    exact ⟨rfl, rfl⟩
  · obtain ⟨b, off, rfl, hc⟩ := h.spot h0
    clear h
    have HNO : Hid (∀ i, i < n → st xs i ≠ col) := hno
    clear hno
    go_enter Tryf.func6, Tryf.ntmps6
    go_wp2
    go_loop [6, 11] (fun p i => ∃ k : Nat, k ≤ n ∧ p = .int .i64 (-1) ∧ i = .int .i64 k) (fun _ i => n - (intOf i).toNat)
    case atStart => exact ⟨0, Nat.zero_le _, rfl, rfl⟩
    case round =>
      obtain ⟨k, hk, rfl, rfl⟩ := hrel
      by_cases hlt : k < n
      · have h1 := hc k hlt
        obtain ⟨x, hx⟩ : ∃ x, x = st xs k := ⟨_, rfl⟩
        have hne := beq_no (HNO.out k hlt)
        rw [← hx] at h1 hne
        clear hc hx
        go_wp2
        go_round
        case rel => exact ⟨k + 1, by omega, rfl, by go_num⟩
        case measure => simp [intOf]; omega
      · go_wp2
        go_ret2
        exact ⟨rfl, rfl⟩

/-- the position that stands after 'k' rounds, where the one match is at 'f' -/
def posAt (f k : Nat) : Int := if f < k then (f : Int) else -1

set_option maxHeartbeats 400000 in
theorem pos_one (a : Option Addr) (n c : Nat) (xs : List ByteArray) (col : ByteArray) (f : Nat) (w : World) (hn : n ≤ 1048576) (h : At w a n xs) (hf : f < n) (heq : st xs f = col) (hno : ∀ i, i < n → i ≠ f → st xs i ≠ col) :
    Calls Tryf.prog 6 #[.slice a n c, .string col] w fun e w' => e = .returned (.tuple #[.int .i64 (f : Int), .nilIface]) ∧ w = w' := by
  obtain ⟨b, off, rfl, hc⟩ := h.spot (by omega)
  clear h
  have HNO : Hid (∀ i, i < n → i ≠ f → st xs i ≠ col) := hno
  have HEQ : Hid (st xs f = col) := heq
  clear hno heq
  go_enter Tryf.func6, Tryf.ntmps6
  go_wp2
  go_loop [6, 11] (fun p i => ∃ k : Nat, k ≤ n ∧ p = .int .i64 (posAt f k) ∧ i = .int .i64 k) (fun _ i => n - (intOf i).toNat)
  case atStart => exact ⟨0, Nat.zero_le _, by simp [posAt], rfl⟩
  case round =>
    obtain ⟨k, hk, rfl, rfl⟩ := hrel
    by_cases hlt : k < n
    · have h1 := hc k hlt
      obtain ⟨x, hx⟩ : ∃ x, x = st xs k := ⟨_, rfl⟩
      by_cases hkf : k = f
      · subst hkf
        have hne := beq_yes HEQ.out
        rw [← hx] at h1 hne
        have hp : posAt k k = -1 := by simp [posAt]
        rw [hp]
        clear hc hx
        go_wp2
        go_round
        case rel => exact ⟨k + 1, by omega, by simp [posAt], by go_num⟩
        case measure => simp [intOf]; omega
      · have hne := beq_no (HNO.out k hlt hkf)
        rw [← hx] at h1 hne
        have hp : posAt f k = posAt f (k + 1) := by
          unfold posAt
          by_cases h : f < k
          · rw [if_pos h, if_pos (by omega)]
          · rw [if_neg h, if_neg (by omega)]
        obtain ⟨p, hpp⟩ : ∃ p, p = posAt f k := ⟨_, rfl⟩
        have HP : Hid (p = posAt f (k + 1)) := hpp.trans hp
        rw [← hpp]
        clear hc hx hp hpp
        go_wp2
        go_round
        case rel => exact ⟨k + 1, by omega, by rw [HP.out], by go_num⟩
        case measure => simp [intOf]; omega
    · have hp : posAt f k = f := by rw [posAt, if_pos (by omega)]
      rw [hp]
      go_wp2
      go_ret2
      exact ⟨rfl, rfl⟩

/-- position 0 and an error -/
def Err (e : Ending) : Prop := ∃ T v, e = .returned (.tuple #[.int .i64 0, .iface T v])

set_option maxHeartbeats 1000000 in
theorem pos_two (F : Interp) (a : Option Addr) (n c : Nat) (xs : List ByteArray) (col : ByteArray) (f m : Nat) (w : World) (hF : F.answers w.tape) (hn : n ≤ 1048576) (h : At w a n xs) (hf : f < m) (hm : m < n) (heq : st xs f = col) (heq2 : st xs m = col) (hno : ∀ i, i < m → i ≠ f → st xs i ≠ col) :
    Calls Tryf.prog 6 #[.slice a n c, .string col] w fun e w' => Err e ∧ Below w.heap.size w w' := by
  obtain ⟨b, off, rfl, hc⟩ := h.spot (by omega)
  clear h
  have HNO : Hid (∀ i, i < m → i ≠ f → st xs i ≠ col) := hno
  have HEQ : Hid (st xs f = col) := heq
  have HEQ2 : Hid (st xs m = col) := heq2
  clear hno heq heq2
  have hF' := answers_open hF
  clear hF
  go_enter Tryf.func6, Tryf.ntmps6
  go_wp2
  go_loop [6, 11] (fun p i => ∃ k : Nat, k ≤ m ∧ p = .int .i64 (posAt f k) ∧ i = .int .i64 k) (fun _ i => n - (intOf i).toNat)
  case atStart => exact ⟨0, Nat.zero_le _, by simp [posAt], rfl⟩
  case round =>
    obtain ⟨k, hk, rfl, rfl⟩ := hrel
    have hlt : k < n := by omega
    have h1 := hc k hlt
    obtain ⟨x, hx⟩ : ∃ x, x = st xs k := ⟨_, rfl⟩
    by_cases hkm : k = m
    · subst hkm
      have hne := beq_yes HEQ2.out
      rw [← hx] at h1 hne
      have hp : posAt f k = f := by rw [posAt, if_pos (by omega)]
      rw [hp]
      clear hc hx hp
      go_wp2
      go_ret2
      refine ⟨⟨_, _, rfl⟩, ?_⟩
      exact (((Below.refl _ w).alloc (Nat.le_refl _) _).alloc ((Below.refl _ w).alloc (Nat.le_refl _) _).size _).drew
    · by_cases hkf : k = f
      · subst hkf
        have hne := beq_yes HEQ.out
        rw [← hx] at h1 hne
        have hp : posAt k k = -1 := by simp [posAt]
        rw [hp]
        clear hc hx
        go_wp2
        go_round
        case rel => exact ⟨k + 1, by omega, by simp [posAt], by go_num⟩
        case measure => simp [intOf]; omega
      · have hne := beq_no (HNO.out k (by omega) hkf)
        rw [← hx] at h1 hne
        have hp : posAt f k = posAt f (k + 1) := by
          unfold posAt
          by_cases h : f < k
          · rw [if_pos h, if_pos (by omega)]
          · rw [if_neg h, if_neg (by omega)]
        obtain ⟨p, hpp⟩ : ∃ p, p = posAt f k := ⟨_, rfl⟩
        have HP : Hid (p = posAt f (k + 1)) := hpp.trans hp
        rw [← hpp]
        clear hc hx hp hpp
        go_wp2
        go_round
        case rel => exact ⟨k + 1, by omega, by rw [HP.out], by go_num⟩
        case measure => simp [intOf]; omega
end Go.Proofs.Qxb6627820aFmt
