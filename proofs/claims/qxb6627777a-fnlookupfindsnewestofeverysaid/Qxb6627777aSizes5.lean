import Derived.Test.Qxb6627777aSizes
namespace Go.Proofs.Qxb6627777a
open Go.RowKit

theorem lt_cell {w : World} {a : Addr} {v : Value} (h : w.cell? a = some v) : a.block < w.heap.size := by
  rcases Nat.lt_or_ge a.block w.heap.size with hl | hl
  · exact hl
  · have hn : w.heap[a.block]? = none := Array.getElem?_eq_none hl
    simp [World.cell?, hn] at h
def Small3 (n m q : Nat) : Prop := n ≤ 1048576 ∧ m ≤ 1048576 ∧ q ≤ 1048576

set_option maxRecDepth 100000 in
set_option maxHeartbeats 800000 in
theorem bytes5_any (a : Option Addr) (n c : Nat) (B : List Bd) (p q : ByteArray) (ks : List Value) (rv : Bool) (w : World) (hn : n ≤ 9223372036854775807) (hp : p.size ≤ 9223372036854775807) (hq : q.size ≤ 9223372036854775807) (hk : Key ks) (h : BsAt w a n B) :
    Calls Try.prog 5 #[.slice a n c, .string p, .agg ks.toArray, .bool rv, .string q] w fun e w' => Says true (Small3 n p.size q.size) e ∧ w.alloc (.cells ks.toArray 23) = w' := by
  have hbox := fun w => box23 ks w hk.1
  clear hk
  by_cases h1 : n ≤ 1048576
  · clear hn
    have fin : ∀ m : Nat, m ≤ 1048576 → (p.size ≤ 1048576 ∧ m + p.size ≤ 1048576 ∧ q.size ≤ 1048576 ∧ m + p.size + q.size ≤ 1048576) ∨ 1048576 < p.size ∨ (p.size ≤ 1048576 ∧ 1048576 < m + p.size) ∨ (p.size ≤ 1048576 ∧ m + p.size ≤ 1048576 ∧ 1048576 < q.size) ∨ (p.size ≤ 1048576 ∧ m + p.size ≤ 1048576 ∧ q.size ≤ 1048576 ∧ 1048576 < m + p.size + q.size) := fun m hm => by omega
    rcases Nat.eq_zero_or_pos n with h0 | h0
    · subst h0
      go_enter Try.func5, Try.ntmps5
      go_wp2
      refine wp_loop_rounds 1 ?_
      rw [rounds_succ]
      rcases fin 0 (by omega) with ⟨f1, f2, f3, f4⟩ | f1 | ⟨f1, f2⟩ | ⟨f1, f2, f3⟩ | ⟨f1, f2, f3, f4⟩
      · clear hp hq fin
        go_wp2
        go_ret
        exact ⟨says_it ⟨h1, f1, f3⟩, rfl⟩
      all_goals
        clear fin
        go_wp2 <;> (go_ret; exact ⟨says_other (by simp), rfl⟩)
    · obtain ⟨b, off, rfl, hc⟩ := h.spot h0
      have hids := h.2.2.1
      have hbl : b < w.heap.size := lt_cell (hc 0 h0).1
      clear h
      go_enter Try.func5, Try.ntmps5
      go_wp2
      go_loop [11, 12] (fun tt i => ∃ k m : Nat, k ≤ n ∧ i = .int .i64 k ∧ tt = .int .i64 m ∧ m ≤ 1048576) (fun _ i => n - (intOf i).toNat)
      case atStart => exact ⟨0, n, Nat.zero_le _, rfl, by go_num, h1⟩
      case round =>
        obtain ⟨k, m, hk, rfl, rfl, hm⟩ := hrel
        by_cases hlt : k < n
        · obtain ⟨id, hid⟩ : ∃ id, id = (bd B k).id := ⟨_, rfl⟩
          obtain ⟨hc1, _, _⟩ := hc k hlt
          have hz := hids k
          rw [← hid] at hc1 hz
          clear hc hid hids hp hq fin hbox
          by_cases h3 : id.size ≤ 1048576
          · clear hz
            by_cases h4 : m + id.size ≤ 1048576
            · have h5' : ((m : Int) + (id.size : Int)) ≤ 1048576 := by omega
              go_upto_region 16 with (with_reducible refine wp_never ?_)
              obtain ⟨mm, hmm⟩ : ∃ mm : Nat, (m : Int) + (id.size : Int) = (mm : Int) := ⟨m + id.size, by omega⟩
              rw [hmm] at h5'
              rw [hmm]
              clear hmm hc1 h4 h3 hm
              go_upto_if 48 with (fail)
              obtain ⟨m2, hm2⟩ : ∃ m2 : Nat, (mm : Int) + 32 = (m2 : Int) := ⟨mm + 32, by omega⟩
              rw [hm2]
              clear hm2 h5'
              by_cases h5 : m2 ≤ 1048576
              · go_wp2
                go_round
                case rel => exact ⟨k + 1, m2, by omega, by go_num, by go_num, h5⟩
                case measure => simp [intOf]; omega
              · go_wp2
                go_ret
                exact ⟨says_other (by simp), rfl⟩
            · go_wp2
              go_ret
              exact ⟨says_other (by simp), rfl⟩
          · go_wp2
            go_ret
            exact ⟨says_other (by simp), rfl⟩
        · rcases fin m hm with ⟨f1, f2, f3, f4⟩ | f1 | ⟨f1, f2⟩ | ⟨f1, f2, f3⟩ | ⟨f1, f2, f3, f4⟩
          · clear hp hq fin hbox hc hids
            go_wp2
            go_ret
            exact ⟨says_it ⟨h1, f1, f3⟩, rfl⟩
          all_goals
            clear fin hbox hc hids
            go_wp2
            go_ret
            exact ⟨says_other (by simp), rfl⟩
  · go_enter Try.func5, Try.ntmps5
    go_wp2
    go_ret
    exact ⟨says_other (by simp), rfl⟩
end Go.Proofs.Qxb6627777a
