import Derived.Test.Qxb6627820aFmtPos
namespace Go.Proofs.Qxb6627820aFmt
open Go.RowKit

set_option maxRecDepth 100000 in
set_option maxHeartbeats 400000 in
theorem bytes5_any (a : Option Addr) (n c : Nat) (xs : List ByteArray) (q : ByteArray) (w : World) (hn : n ≤ 9223372036854775807) (hq : q.size ≤ 9223372036854775807) (hxs : ∀ i, (st xs i).size ≤ 9223372036854775807) (h : At w a n xs) :
    Calls Tryf.prog 5 #[.slice a n c, .string q] w fun e w' => Says true (Fits n q.size) e ∧ w = w' := by
  by_cases h1 : n ≤ 1048576
  · clear hn
    rcases Nat.eq_zero_or_pos n with h0 | h0
    · subst h0
      by_cases h2 : q.size ≤ 1048576
      · go_enter Tryf.func5, Tryf.ntmps5
        go_wp2
        refine wp_loop_rounds 1 ?_
        rw [rounds_succ]
        go_wp2
        go_ret
        exact ⟨says_it ⟨h1, h2⟩, rfl⟩
      · go_enter Tryf.func5, Tryf.ntmps5
        go_wp2
        refine wp_loop_rounds 1 ?_
        rw [rounds_succ]
        go_wp2
        go_ret
        exact ⟨says_other (by simp), rfl⟩
    · obtain ⟨b, off, rfl, hc⟩ := h.spot h0
      clear h
      go_enter Tryf.func5, Tryf.ntmps5
      go_wp2
      go_loop [5, 6] (fun tt i => ∃ k m : Nat, k ≤ n ∧ i = .int .i64 k ∧ tt = .int .i64 m ∧ m ≤ 1048576) (fun _ i => n - (intOf i).toNat)
      case atStart => exact ⟨0, n, Nat.zero_le _, rfl, by go_num, h1⟩
      case round =>
        obtain ⟨k, m, hk, rfl, rfl, hm⟩ := hrel
        by_cases hlt : k < n
        · obtain ⟨x, hx⟩ : ∃ x, x = st xs k := ⟨_, rfl⟩
          have hc1 := hc k hlt
          have hz := hxs k
          rw [← hx] at hc1 hz
          clear hc hx hxs hq
          by_cases h3 : x.size ≤ 1048576
          · clear hz
            by_cases h4 : m + x.size ≤ 1048576
            · go_wp2
              go_round
              case rel => exact ⟨k + 1, m + x.size, by omega, by go_num, by go_num, h4⟩
              case measure => simp [intOf]; omega
            · go_wp2
              go_ret
              exact ⟨says_other (by simp), rfl⟩
          · go_wp2
            go_ret
            exact ⟨says_other (by simp), rfl⟩
        · by_cases h2 : q.size ≤ 1048576
          · by_cases h3 : m + q.size ≤ 1048576
            · go_wp2
              go_ret
              exact ⟨says_it ⟨h1, h2⟩, rfl⟩
            · go_wp2
              go_ret
              exact ⟨says_other (by simp), rfl⟩
          · go_wp2
            go_ret
            exact ⟨says_other (by simp), rfl⟩
  · go_enter Tryf.func5, Tryf.ntmps5
    go_wp2
    go_ret
    exact ⟨says_other (by simp), rfl⟩
end Go.Proofs.Qxb6627820aFmt
