import Derived.Test.Qxb6627820aFmtPlain
namespace Go.Proofs.Qxb6627820aFmt
open Go.RowKit
open Go.Extern.Stop Go.Stop Go.Extern

set_option maxRecDepth 100000 in
set_option maxHeartbeats 1000000 in
theorem law1_main (F : Interp) (a : Option Addr) (n c : Nat) (xs : List ByteArray) (col : ByteArray) (w : World) (hF : F.answers w.tape) (hn : n ≤ 9223372036854775807) (hq : col.size ≤ 9223372036854775807) (hxs : ∀ i, (st xs i).size ≤ 9223372036854775807) (A : At w a n xs) :
    Calls Tryf.prog 3 #[.slice a n c, .string col] w fun e w' => e = .returned (.bool true) ∧ Below w.heap.size w w' := by
  have HF : Hid (F.answers w.tape) := hF
  clear hF
  go_enter Tryf.func3, Tryf.ntmps3
  go_wp2_with fail
  refine (bytes5_any a n c xs col w hn hq hxs A).mono ?_
  rintro e w' ⟨⟨r, rfl, hr⟩, rfl⟩
  cases r with
  | false =>
    go_wp2
    go_ret
    exact ⟨rfl, Below.refl _ _⟩
  | true =>
    obtain ⟨hf1, hf2⟩ := hr rfl
    clear hr hn hq
    by_cases hbig : 65536 < n
    · go_wp2
      go_ret
      exact ⟨rfl, Below.refl _ _⟩
    · cases a with
      | none =>
        have h0 := A.nil
        subst h0
        go_wp2
        refine wp_loop_rounds 1 ?_
        rw [rounds_succ]
        go_wp2
        refine wp_loop_rounds 1 ?_
        rw [rounds_succ]
        go_wp2
        refine wp_loop_rounds 1 ?_
        rw [rounds_succ]
        go_wp2_with fail
        refine (pos_none none 0 c xs col w (by omega) A (fun i hi => by omega)).mono ?_
        rintro e w' ⟨rfl, rfl⟩
        go_wp2
        go_ret
        exact ⟨rfl, Below.refl _ _⟩
      | some ad =>
        go_wp2_with (first
          | (at_make; refine make_strs rfl (.tmp 27) rfl (n : Int) n rfl rfl (by omega) ?_; intro w1 hg1 hb1)
          | (with_reducible refine copy_strs rfl (.tmp 29) (.tmp 30) rfl w (some ad) n c xs rfl rfl hg1 hb1 A ?_; intro w2 A2 B2; clear hg1 hb1 A))
        clear w1
        have HX : Hid (∀ i, (st xs i).size ≤ 9223372036854775807) := hxs
        have hF2 : F.answers w2.tape := by rw [B2.tape]; exact HF.out
        have HF2 : Hid (F.answers w2.tape) := hF2
        clear hF2 HF hxs
        rcases Nat.eq_zero_or_pos n with h0 | h0
        · subst h0
          refine wp_loop_rounds 1 ?_
          rw [rounds_succ]
          go_wp2
          refine wp_loop_rounds 1 ?_
          rw [rounds_succ]
          go_wp2
          refine wp_loop_rounds 1 ?_
          rw [rounds_succ]
          go_wp2_with fail
          refine (pos_none _ 0 0 xs col w2 (by omega) A2 (fun i hi => by omega)).mono ?_
          rintro e w' ⟨rfl, rfl⟩
          go_wp2
          go_ret
          exact ⟨rfl, B2⟩
        · have hc : ∀ i, i < n → w2.cell? ⟨w.heap.size, i, none⟩ = some (.string (st xs i)) := fun i hi => by
            obtain ⟨b, off, hb, h⟩ := A2.2 i hi
            simp at hb
            obtain ⟨rfl, rfl⟩ := hb
            simpa using h
          have HC : Hid (∀ i, i < n → w2.cell? ⟨w.heap.size, i, none⟩ = some (.string (st xs i))) := hc
          clear hc
          go_loop [6, 7] (fun tt i => ∃ k m : Nat, k ≤ n ∧ i = .int .i64 k ∧ tt = .int .i64 m ∧ m ≤ 1048576) (fun _ i => n - (intOf i).toNat)
          case atStart => exact ⟨0, col.size, Nat.zero_le _, rfl, by go_num, hf2⟩
          case round =>
            obtain ⟨k, m, hk, rfl, rfl, hm⟩ := hrel
            by_cases hlt : k < n
            · obtain ⟨x, hx⟩ : ∃ x, x = st xs k := ⟨_, rfl⟩
              have hc1 := HC.out k hlt
              have hz := HX.out k
              rw [← hx] at hc1 hz
              clear hx hbig
              by_cases h3 : x.size ≤ 1048576
              · clear hz
                by_cases h4 : m + (16 + x.size) ≤ 1048576
                · go_wp2
                  go_round
                  case rel => exact ⟨k + 1, m + (16 + x.size), by omega, by go_num, by go_num, h4⟩
                  case measure => simp [intOf]; omega
                · go_wp2
                  go_ret
                  exact ⟨rfl, B2⟩
              · go_wp2
                go_ret
                exact ⟨rfl, B2⟩
            · clear hbig HX
              rcases classes xs col n with hno | hsome
              · have HNO : Hid (No xs col n) := hno
                clear hno
                go_wp2_with fail
                go_loop [8, 9] (fun p i => ∃ k : Nat, k ≤ n ∧ p = .int .i64 (-1) ∧ i = .int .i64 k) (fun _ i => n - (intOf i).toNat)
                case atStart => exact ⟨0, Nat.zero_le _, rfl, rfl⟩
                case round =>
                  obtain ⟨k, hk, rfl, rfl⟩ := hrel
                  by_cases hlt : k < n
                  · obtain ⟨x, hx⟩ : ∃ x, x = st xs k := ⟨_, rfl⟩
                    have hc1 := HC.out k hlt
                    have hne := beq_no (HNO.out k hlt)
                    rw [← hx] at hc1 hne
                    clear hx
                    go_wp2
                    go_round
                    case rel => exact ⟨k + 1, by omega, rfl, by go_num⟩
                    case measure => simp [intOf]; omega
                  · clear hk
                    go_wp2_with fail
                    go_loop [10, 11] (fun p i => ∃ k : Nat, k ≤ n ∧ p = .int .i64 (-1) ∧ i = .int .i64 ((k : Int) - 1)) (fun _ i => (intOf i + 1).toNat)
                    case atStart => exact ⟨n, Nat.le_refl _, rfl, rfl⟩
                    case round =>
                      obtain ⟨k, hk, rfl, rfl⟩ := hrel
                      clear hlt
                      rcases Nat.eq_zero_or_pos k with hk0 | hk0
                      · subst hk0
                        have e0 : (((0 : Nat) : Int) - 1) = -1 := by omega
                        rw [e0]
                        go_wp2_with fail
                        refine (pos_none _ n n xs col w2 (by omega) A2 HNO.out).mono ?_
                        rintro e w' ⟨rfl, rfl⟩
                        go_wp2
                        go_ret
                        exact ⟨rfl, B2⟩
                      · obtain ⟨j, rfl⟩ : ∃ j, k = j + 1 := ⟨k - 1, by omega⟩
                        have e0 : (((j + 1 : Nat) : Int) - 1) = (j : Int) := by omega
                        rw [e0]
                        obtain ⟨x, hx⟩ : ∃ x, x = st xs j := ⟨_, rfl⟩
                        have hc1 := HC.out j (by omega)
                        have hne := beq_no (HNO.out j (by omega))
                        rw [← hx] at hc1 hne
                        clear hx e0
                        go_wp2
                        go_round
                        case rel => exact ⟨j, by omega, rfl, by go_num⟩
                        case measure => simp [intOf]
              · have hends : ∃ f l, f ≤ l ∧ Ends xs col n f l ∧ (f = l → One xs col n f) ∧ (f < l → ∃ m, Two xs col n f m) := by
                  rcases hsome with ⟨f, h⟩ | ⟨f, m, h⟩
                  · exact ⟨f, f, Nat.le_refl _, h.ends, fun _ => h, fun h => by omega⟩
                  · obtain ⟨l, h1, h2⟩ := h.ends
                    exact ⟨f, l, by omega, h2, fun h => by omega, fun _ => ⟨m, h⟩⟩
                obtain ⟨f, l, hfl, ⟨hfn, hln, hef, hel, hbf, hbl⟩, hone, htwo⟩ := hends
                have HEF : Hid (st xs f = col) := hef
                have HEL : Hid (st xs l = col) := hel
                have HBF : Hid (∀ i, i < f → st xs i ≠ col) := hbf
                have HBL : Hid (∀ i, l < i → i < n → st xs i ≠ col) := hbl
                have HONE : Hid (f = l → One xs col n f) := hone
                have HTWO : Hid (f < l → ∃ m, Two xs col n f m) := htwo
                clear hef hel hbf hbl hone htwo hsome
                go_wp2_with fail
                go_loop [8, 9] (fun p i => ∃ k : Nat, k ≤ f ∧ p = .int .i64 (-1) ∧ i = .int .i64 k) (fun _ i => n - (intOf i).toNat)
                case atStart => exact ⟨0, Nat.zero_le _, rfl, rfl⟩
                case round =>
                  obtain ⟨k, hk, rfl, rfl⟩ := hrel
                  have hlt : k < n := by omega
                  by_cases hkf : k = f
                  · subst hkf
                    obtain ⟨x, hx⟩ : ∃ x, x = st xs k := ⟨_, rfl⟩
                    have hc1 := HC.out k hlt
                    have hne := beq_yes HEF.out
                    rw [← hx] at hc1 hne
                    clear hx hk
                    go_wp2_with fail
                    clear hc1 hne
                    go_loop [10, 11] (fun p i => ∃ j : Nat, l < j ∧ j ≤ n ∧ p = .int .i64 (-1) ∧ i = .int .i64 ((j : Int) - 1)) (fun _ i => (intOf i + 1).toNat)
                    case atStart => exact ⟨n, hln, Nat.le_refl _, rfl, rfl⟩
                    case round =>
                      obtain ⟨j0, hj1, hj2, rfl, rfl⟩ := hrel
                      obtain ⟨j, rfl⟩ : ∃ j, j0 = j + 1 := ⟨j0 - 1, by omega⟩
                      have e0 : (((j + 1 : Nat) : Int) - 1) = (j : Int) := by omega
                      rw [e0]
                      obtain ⟨x, hx⟩ : ∃ x, x = st xs j := ⟨_, rfl⟩
                      have hc1 := HC.out j (by omega)
                      rw [← hx] at hc1
                      clear e0
                      by_cases hjl : j = l
                      · subst hjl
                        have hne := beq_yes HEL.out
                        rw [← hx] at hne
                        clear hx hj1 hj2
                        go_wp2_with fail
                        rcases Nat.eq_or_lt_of_le hfl with heq | hlt2
                        · subst heq
                          obtain ⟨g1, g2, g3⟩ := HONE.out rfl
                          refine (pos_one _ n n xs col k w2 (by omega) A2 g1 g2 g3).mono ?_
                          rintro e w' ⟨rfl, rfl⟩
                          clear g1 g2 g3
                          go_wp2
                          go_ret
                          exact ⟨rfl, B2⟩
                        · obtain ⟨m, g1, g2, g3, g4, g5⟩ := HTWO.out hlt2
                          refine (pos_two F _ n n xs col k m w2 HF2.out (by omega) A2 g1 g2 g3 g4 g5).mono ?_
                          rintro e w' ⟨⟨T, v, rfl⟩, b3⟩
                          have B3 : Below w.heap.size w w' := B2.trans (b3.mono B2.size)
                          clear g1 g2 g3 g4 g5 b3
                          have e1 : ((k : Int) == (j : Int)) = false := by simp; omega
                          go_wp2
                          go_ret
                          exact ⟨rfl, B3⟩
                      · have hne := beq_no (HBL.out j (by omega) (by omega))
                        rw [← hx] at hne
                        clear hx
                        go_wp2
                        go_round
                        case rel => exact ⟨j, by omega, by omega, rfl, by go_num⟩
                        case measure => simp [intOf]
                  · obtain ⟨x, hx⟩ : ∃ x, x = st xs k := ⟨_, rfl⟩
                    have hc1 := HC.out k hlt
                    have hne := beq_no (HBF.out k (by omega))
                    rw [← hx] at hc1 hne
                    clear hx
                    go_wp2
                    go_round
                    case rel => exact ⟨k + 1, by omega, rfl, by go_num⟩
                    case measure => simp [intOf]; omega
end Go.Proofs.Qxb6627820aFmt
