import Derived.Test.Qxb6627692aPrefix
namespace Go.Proofs.Qxb6627692a
open Go.RowKit

theorem prefix_any (a : Option Addr) (n c : Nat) (xs : List Int) (w : World) (hn : n ≤ 1048576) (h : At w a n xs) (hx : ∀ j, 0 ≤ xs.getD j 0 ∧ xs.getD j 0 ≤ 255) :
    Calls Try.prog 6 #[.slice a n c] w fun e w' => PrePost a n c xs w e w' := by
  rcases Nat.eq_zero_or_pos n with h0 | h0
  · subst h0
    obtain rfl : xs = [] := List.length_eq_zero_iff.1 h.1
    refine (prefix_nil a c w).mono ?_
    rintro e w' ⟨a', d, rfl, hb⟩
    exact ⟨a', 0, d, rfl, ⟨Nat.le_refl _, fun j h1 h2 => by omega, by omega⟩, At.empty _ _, hb⟩
  · obtain ⟨b, off, rfl, _⟩ := h.spot h0
    exact prefix_pos _ n c xs w hn h0 h hx

theorem bytes_ok (a0 a1 : Option Addr) (n0 c0 n1 c1 : Nat) (w : World) (h0 : n0 ≤ 65536) (h1 : n1 ≤ 65536) :
    Calls Try.prog 4 #[.slice a0 n0 c0, .slice a1 n1 c1] w fun e w' => e = .returned (.bool true) ∧ w = w' := by
  go_enter Try.func4, Try.ntmps4
  go_wp2
  go_ret
  exact ⟨rfl, rfl⟩

theorem law_big0 (a0 a1 : Option Addr) (n0 c0 n1 c1 : Nat) (w : World) (h0 : 65536 < n0) (m0 : n0 ≤ 9223372036854775807) (m1 : n1 ≤ 9223372036854775807) :
    Calls Try.prog 3 #[.slice a0 n0 c0, .slice a1 n1 c1] w fun e w' => e = .returned (.bool true) ∧ w = w' := by
  go_enter Try.func3, Try.ntmps3
  go_wp2
  all_goals (go_ret; exact ⟨rfl, rfl⟩)

theorem law_big1 (a0 a1 : Option Addr) (n0 c0 n1 c1 : Nat) (w : World) (h0 : n0 ≤ 65536) (h1 : 65536 < n1) (m1 : n1 ≤ 9223372036854775807) :
    Calls Try.prog 3 #[.slice a0 n0 c0, .slice a1 n1 c1] w fun e w' => e = .returned (.bool true) ∧ w = w' := by
  go_enter Try.func3, Try.ntmps3
  go_wp2
  all_goals (go_ret; exact ⟨rfl, rfl⟩)

theorem pre_is (a b : Option Addr) (n m c d : Nat) (ys xs : List Int) (r : Bool) (hr : preL ys xs = r) (w : World) (hn : n ≤ 1048576) (hm : m ≤ 1048576) (ha : At w a n ys) (hb : At w b m xs) :
    Calls Try.prog 9 #[.slice a n c, .slice b m d] w fun e w' => e = .returned (.bool r) ∧ ∃ q, w' = w.drewN q := by
  subst hr
  exact pre_any a b n m c d ys xs w hn hm ha hb
theorem cmp_is (a b : Option Addr) (n m c d : Nat) (ys xs : List Int) (r : Int) (hr : Hid (cmpL ys xs = r)) (w : World) (hn : n ≤ 1048576) (hm : m ≤ 1048576) (ha : At w a n ys) (hb : At w b m xs) :
    Calls Try.prog 8 #[.slice a n c, .slice b m d] w fun e w' => e = .returned (.int .i64 r) ∧ ∃ q, w' = w.drewN q := by
  rw [← hr.out]
  exact cmp_any a b n m c d ys xs w hn hm ha hb

/-- the plain law, in the walk's words -/
theorem plain_none (ys : List Int) : preL ys [] = true := by cases ys <;> rfl
theorem plain_full (ys xs : List Int) (n : Nat) (hl : xs.length = n) (hcut : Cut xs n 0) (hy : ∀ y ∈ ys, y ≤ 255) (r : Int) (hr : cmpL ys xs = r) : preL ys xs = decide (0 ≤ r) := by
  have := pre_full ys xs (fun j hj => hcut.2.1 j (Nat.zero_le _) (by omega)) hy
  rw [hr] at this
  rw [Bool.eq_iff_iff, ← this]
  simp
theorem plain_cut (ys xs : List Int) (n m : Nat) (hl : xs.length = n) (hm : 0 < m) (hcut : Cut xs n m) (hy : ∀ y ∈ ys, y ≤ 255) (r q : Int) (hr : cmpL ys xs = r) (hq : cmpL ys (endL xs m) = q) : preL ys xs = (decide (0 ≤ r) && decide (q < 0)) := by
  obtain ⟨k, rfl⟩ : ∃ k, m = k + 1 := ⟨m - 1, by omega⟩
  have := pre_cut ys xs k (by rw [hl]; exact hcut.1) (fun j h1 h2 => hcut.2.1 j h1 (by omega)) (by have := hcut.2.2 hm; simpa using this) hy
  rw [hr, hq] at this
  rw [Bool.eq_iff_iff, ← this]
  simp

set_option maxHeartbeats 1000000 in
theorem law_main (a0 a1 : Option Addr) (n0 c0 n1 c1 : Nat) (xs ys : List Int) (w : World) (h0 : n0 ≤ 65536) (h1 : n1 ≤ 65536) (A0 : At w a0 n0 xs) (A1 : At w a1 n1 ys)
    (hx : ∀ j, 0 ≤ xs.getD j 0 ∧ xs.getD j 0 ≤ 255) (hy : ∀ y ∈ ys, y ≤ 255) :
    Calls Try.prog 3 #[.slice a0 n0 c0, .slice a1 n1 c1] w fun e w' => e = .returned (.bool true) ∧ Below w.heap.size w w' := by
  have HX : Hid (∀ j, 0 ≤ xs.getD j 0 ∧ xs.getD j 0 ≤ 255) := hx
  have HY : Hid (∀ y ∈ ys, y ≤ 255) := hy
  clear hx hy
  go_enter Try.func3, Try.ntmps3
  go_wp2_with (go_at_call 4; refine (bytes_ok _ _ _ _ _ _ _ h0 h1).mono ?_; rintro e w' ⟨rfl, rfl⟩)
  refine (clone_any a0 n0 c0 xs w (by omega) A0).mono ?_
  rintro e w1 ⟨p, rfl, P1, b1⟩
  have K1 := A1.below b1 rfl
  have B1 := b1
  clear A0 A1 b1
  go_wp2_with fail
  refine (clone_any a1 n1 c1 ys w1 (by omega) K1).mono ?_
  rintro e w2 ⟨k, rfl, K2, b2⟩
  have P2 := P1.below b2 rfl
  have B2 := B1.trans (b2.mono B1.size)
  clear P1 K1 B1 b2
  go_wp2_with fail
  refine (clone_any p n0 n0 xs w2 (by omega) P2).mono ?_
  rintro e w3 ⟨pw, rfl, W3, b3⟩
  have P3 := P2.below b3 rfl
  have K3 := K2.below b3 rfl
  have B3 := B2.trans (b3.mono B2.size)
  clear P2 K2 B2 b3
  go_wp2_with fail
  refine (clone_any k n1 n1 ys w3 (by omega) K3).mono ?_
  rintro e w4 ⟨kw, rfl, Q4, b4⟩
  have P4 := P3.below b4 rfl
  have W4 := W3.below b4 rfl
  have B4 := B3.trans (b4.mono B3.size)
  clear P3 W3 K3 B3 b4
  go_wp2_with fail
  refine (prefix_any p n0 n0 xs w4 (by omega) P4 HX.out).mono ?_
  rintro e w5 ⟨ea, m, d, rfl, hcut, E5, b5⟩
  have P5 := P4.below b5 rfl
  have W5 := W4.below b5 rfl
  have Q5 := Q4.below b5 rfl
  have B5 := B4.trans (b5.mono B4.size)
  clear P4 W4 Q4 B4 b5
  have hm : m ≤ n0 := hcut.1
  have HC : Hid (Cut xs n0 m) := hcut
  clear hcut
  have hl : xs.length = n0 := P5.1
  go_wp2_with fail
  refine (eq_same p pw n0 n0 n0 xs _ (by omega) (P5.alloc _) (W5.alloc _)).mono ?_
  rintro e w6 ⟨rfl, q6, hw6⟩
  subst hw6
  have B6 : Hid (∀ q, Below w.heap.size w ((w5.alloc (.cells #[.slice p n0 n0, .slice ea m d] 26)).drewN q)) := fun q => below_drewN (B5.alloc B5.size _) q
  rcases Nat.eq_zero_or_pos n0 with hz | hz
  · have e0 : ((n0 : Int) == 0) = true := by simpa using hz
    have e1 : ((m : Int) == 0) = true := by simp; omega
    obtain rfl : xs = [] := List.length_eq_zero_iff.1 (by omega)
    have hcon := fun w => pre_is kw pw n1 n0 n1 n0 ys [] true (plain_none ys) w (by omega) (by omega)
    clear hz hm
    go_wp2_with fail
    refine (hcon _ ((Q5.alloc _).drewN _) ((W5.alloc _).drewN _)).mono ?_
    rintro e w7 ⟨rfl, q7, hw7⟩
    subst hw7
    go_wp2
    go_ret
    exact ⟨rfl, B6.out _⟩
  · have e0 : ((n0 : Int) == 0) = false := by simp; omega
    obtain ⟨r, hr⟩ : ∃ r, cmpL ys xs = r := ⟨_, rfl⟩
    have HR : Hid (cmpL ys xs = r) := hr
    clear hr
    rcases Nat.eq_zero_or_pos m with hz2 | hz2
    · have e1 : ((m : Int) == 0) = true := by simpa using hz2
      have hp := plain_full ys xs n0 hl (hz2 ▸ HC.out) HY.out r HR.out
      by_cases hr0 : 0 ≤ r
      · rw [decide_eq_true hr0] at hp
        have hcon := fun w => pre_is kw pw n1 n0 n1 n0 ys xs _ hp w (by omega) (by omega)
        clear hp hz2 hl
        go_wp2_with fail
        refine (cmp_is kw p n1 n0 n1 n0 ys xs r HR _ (by omega) (by omega) ((Q5.alloc _).drewN _) ((P5.alloc _).drewN _)).mono ?_
        rintro e w7 ⟨rfl, q7, hw7⟩
        subst hw7
        go_wp2_with fail
        refine (hcon _ ((Q5.alloc _).drewN _) ((W5.alloc _).drewN _)).mono ?_
        rintro e w8 ⟨rfl, q8, hw8⟩
        subst hw8
        go_wp2
        go_ret
        exact ⟨rfl, B6.out _⟩
      · rw [decide_eq_false hr0] at hp
        have hcon := fun w => pre_is kw pw n1 n0 n1 n0 ys xs _ hp w (by omega) (by omega)
        clear hp hz2 hl
        go_wp2_with fail
        refine (cmp_is kw p n1 n0 n1 n0 ys xs r HR _ (by omega) (by omega) ((Q5.alloc _).drewN _) ((P5.alloc _).drewN _)).mono ?_
        rintro e w7 ⟨rfl, q7, hw7⟩
        subst hw7
        go_wp2_with fail
        refine (hcon _ ((Q5.alloc _).drewN _) ((W5.alloc _).drewN _)).mono ?_
        rintro e w8 ⟨rfl, q8, hw8⟩
        subst hw8
        go_wp2
        go_ret
        exact ⟨rfl, B6.out _⟩
    · have e1 : ((m : Int) == 0) = false := by simp; omega
      obtain ⟨t, ht⟩ : ∃ t, cmpL ys (endL xs m) = t := ⟨_, rfl⟩
      have HT : Hid (cmpL ys (endL xs m) = t) := ht
      clear ht
      have hp := plain_cut ys xs n0 m hl hz2 HC.out HY.out r t HR.out HT.out
      have fin : ∀ b : Bool, preL ys xs = b → ∀ w, At w kw n1 ys → At w pw n0 xs → Calls Try.prog 9 #[.slice kw n1 n1, .slice pw n0 n0] w fun e w' => e = .returned (.bool b) ∧ ∃ q, w' = w.drewN q := fun b hb w => pre_is kw pw n1 n0 n1 n0 ys xs b hb w (by omega) (by omega)
      by_cases hr0 : 0 ≤ r
      all_goals
        by_cases ht0 : t < 0
        all_goals
          simp only [hr0, ht0, decide_true, decide_false, Bool.and_true, Bool.and_false] at hp
          have hcon := fin _ hp
          clear hp hz2 hl fin
          go_wp2_with fail
          refine (cmp_is kw p n1 n0 n1 n0 ys xs r HR _ (by omega) (by omega) ((Q5.alloc _).drewN _) ((P5.alloc _).drewN _)).mono ?_
          rintro e w7 ⟨rfl, q7, hw7⟩
          subst hw7
          go_wp2_with fail
          refine (cmp_is kw ea n1 m n1 d ys (endL xs m) t HT _ (by omega) (by omega) ((Q5.alloc _).drewN _) ((E5.alloc _).drewN _)).mono ?_
          rintro e w8 ⟨rfl, q8, hw8⟩
          subst hw8
          go_wp2_with fail
          refine (hcon _ ((Q5.alloc _).drewN _) ((W5.alloc _).drewN _)).mono ?_
          rintro e w9 ⟨rfl, q9, hw9⟩
          subst hw9
          go_wp2
          go_ret
          first | exact ⟨rfl, B6.out _⟩ | exact ⟨ret_bool (a := !decide (t < 0)) (by simp; omega), B6.out _⟩
end Go.Proofs.Qxb6627692a
