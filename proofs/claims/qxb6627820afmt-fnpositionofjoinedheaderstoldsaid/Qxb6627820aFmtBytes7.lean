import Derived.Test.Qxb6627820aFmtPlain
namespace Go.Proofs.Qxb6627820aFmt
open Go.RowKit

def Fits3 (n m q : Nat) : Prop := n ≤ 1048576 ∧ m ≤ 1048576 ∧ q ≤ 1048576

set_option maxRecDepth 100000 in
set_option maxHeartbeats 1000000 in
theorem bytes7_any (a b : Option Addr) (n m c d : Nat) (xs ys : List ByteArray) (q : ByteArray) (w : World) (hn : n ≤ 9223372036854775807) (hm : m ≤ 9223372036854775807) (hq : q.size ≤ 9223372036854775807) (hxs : ∀ i, (st xs i).size ≤ 9223372036854775807) (hys : ∀ i, (st ys i).size ≤ 9223372036854775807) (A : At w a n xs) (B : At w b m ys) :
    Calls Tryf.prog 7 #[.slice a n c, .slice b m d, .string q] w fun e w' => Says true (Fits3 n m q.size) e ∧ w = w' := by
  have HX : Hid (∀ i, (st xs i).size ≤ 9223372036854775807) := hxs
  have HY : Hid (∀ i, (st ys i).size ≤ 9223372036854775807) := hys
  clear hxs hys
  by_cases h1 : n ≤ 1048576
  · clear hn
    go_enter Tryf.func7, Tryf.ntmps7
    go_wp2
    go_loop [7, 8] (fun tt i => ∃ k t : Nat, k ≤ n ∧ i = .int .i64 k ∧ tt = .int .i64 t ∧ t ≤ 1048576) (fun _ i => n - (intOf i).toNat)
    case atStart => exact ⟨0, n, Nat.zero_le _, rfl, by go_num, h1⟩
    case round =>
      obtain ⟨k, t, hk, rfl, rfl, ht⟩ := hrel
      by_cases hlt : k < n
      · obtain ⟨ab, off, rfl, hc1⟩ := A.2 k hlt
        obtain ⟨x, hx⟩ : ∃ x, x = st xs k := ⟨_, rfl⟩
        have hz := HX.out k
        rw [← hx] at hc1 hz
        clear hx hq
        by_cases h3 : x.size ≤ 1048576
        · clear hz
          by_cases h4 : t + x.size ≤ 1048576
          · go_wp2
            go_round
            case rel => exact ⟨k + 1, t + x.size, by omega, by go_num, by go_num, h4⟩
            case measure => simp [intOf]; omega
          · go_wp2
            go_ret
            exact ⟨says_other (by simp), rfl⟩
        · go_wp2
          go_ret
          exact ⟨says_other (by simp), rfl⟩
      · by_cases h2 : m ≤ 1048576
        · clear hm
          by_cases h3 : t + m ≤ 1048576
          · go_wp2
            go_loop [7, 9] (fun tt i => ∃ k t : Nat, k ≤ m ∧ i = .int .i64 k ∧ tt = .int .i64 t ∧ t ≤ 1048576) (fun _ i => m - (intOf i).toNat)
            case atStart => exact ⟨0, t + m, Nat.zero_le _, rfl, by go_num, h3⟩
            case round =>
              clear hlt hk ht h3
              obtain ⟨k2, t2, hk, rfl, rfl, ht⟩ := hrel
              by_cases hlt : k2 < m
              · obtain ⟨ab, off, rfl, hc1⟩ := B.2 k2 hlt
                obtain ⟨x, hx⟩ : ∃ x, x = st ys k2 := ⟨_, rfl⟩
                have hz := HY.out k2
                rw [← hx] at hc1 hz
                clear hx hq
                by_cases h3 : x.size ≤ 1048576
                · clear hz
                  by_cases h4 : t2 + x.size ≤ 1048576
                  · go_wp2
                    go_round
                    case rel => exact ⟨k2 + 1, t2 + x.size, by omega, by go_num, by go_num, h4⟩
                    case measure => simp [intOf]; omega
                  · go_wp2
                    go_ret
                    exact ⟨says_other (by simp), rfl⟩
                · go_wp2
                  go_ret
                  exact ⟨says_other (by simp), rfl⟩
              · by_cases h5 : q.size ≤ 1048576
                · by_cases h6 : t2 + q.size ≤ 1048576
                  · go_wp2
                    go_ret
                    exact ⟨says_it ⟨h1, h2, h5⟩, rfl⟩
                  · go_wp2
                    go_ret
                    exact ⟨says_other (by simp), rfl⟩
                · go_wp2
                  go_ret
                  exact ⟨says_other (by simp), rfl⟩
          · go_wp2
            go_ret
            exact ⟨says_other (by simp), rfl⟩
        · go_wp2
          go_ret
          exact ⟨says_other (by simp), rfl⟩
  · go_enter Tryf.func7, Tryf.ntmps7
    go_wp2
    go_ret
    exact ⟨says_other (by simp), rfl⟩
end Go.Proofs.Qxb6627820aFmt
