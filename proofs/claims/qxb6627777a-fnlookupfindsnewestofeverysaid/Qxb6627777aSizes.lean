import Derived.Test.Qxb6627777aMap
import Derived.Deep.Cut
import Derived.Outline
namespace Go.Proofs.Qxb6627777a
open Go.RowKit

/-- the slice of bindings at 'a', in the world 'w' -/
def BsAt (w : World) (a : Option Addr) (n : Nat) (B : List Bd) : Prop :=
  B.length = n ∧ Keys32 B ∧ (∀ i, (bd B i).id.size ≤ 9223372036854775807) ∧ ∀ i, i < n → ∃ b off, a = some ⟨b, off, none⟩ ∧
    w.cell? ⟨b, off + i * 34, none⟩ = some (.string (bd B i).id) ∧ w.rangeAt b (off + i * 34 + 1) (bd B i).key ∧ w.cell? ⟨b, off + i * 34 + 33, none⟩ = some (.bool (bd B i).rev)
theorem BsAt.spot {w : World} {a : Option Addr} {n : Nat} {B : List Bd} (h : BsAt w a n B) (hn : 0 < n) :
    ∃ b off, a = some ⟨b, off, none⟩ ∧ ∀ i, i < n → w.cell? ⟨b, off + i * 34, none⟩ = some (.string (bd B i).id) ∧ w.rangeAt b (off + i * 34 + 1) (bd B i).key ∧ w.cell? ⟨b, off + i * 34 + 33, none⟩ = some (.bool (bd B i).rev) := by
  obtain ⟨b, off, ha, _⟩ := h.2.2.2 0 hn
  refine ⟨b, off, ha, fun i hi => ?_⟩
  obtain ⟨b', off', ha', hc⟩ := h.2.2.2 i hi
  rw [ha] at ha'
  simp at ha'
  obtain ⟨rfl, rfl⟩ := ha'
  exact hc

theorem ret_bool {a b : Bool} (h : a = b) : Ending.returned (.bool a) = .returned (.bool b) := by rw [h]

/-- a test that is the constant 'false' -/
theorem wp_never {P : Program} {A B : Code} {Q : Exit → Act → World → Prop} {a : Act} {w : World} (h : B.wp P Q a w) : (Code.cond (.const (.bool false)) A B).wp P Q a w := wp_cond_false rfl h

/-- a bool comes back; if it is 'b', then 'p' -/
def Says (b : Bool) (p : Prop) (e : Ending) : Prop := ∃ r, e = .returned (.bool r) ∧ (r = b → p)
def Small (n : Nat) : Prop := n ≤ 65536
def Small2 (n m : Nat) : Prop := n ≤ 1048576 ∧ m ≤ 1048576
theorem says_other {b r : Bool} {p : Prop} (h : r ≠ b) : Says b p (.returned (.bool r)) := ⟨r, rfl, fun e => absurd e h⟩
theorem says_it {b r : Bool} {p : Prop} (h : p) : Says b p (.returned (.bool r)) := ⟨r, rfl, fun _ => h⟩

set_option maxRecDepth 100000 in
set_option maxHeartbeats 400000 in
theorem too_any (a : Option Addr) (n c : Nat) (B : List Bd) (s t : ByteArray) (w : World) (hn : n ≤ 1048576) (hs : s.size ≤ 1048576) (ht : t.size ≤ 1048576) (h : BsAt w a n B) :
    Calls Try.prog 6 #[.slice a n c, .string s, .string t] w fun e w' => Says false (Small n) e ∧ w = w' := by
  have g1 : decide ((1048576 : Int) < (s.size : Int)) = false := decide_eq_false (by omega)
  have g2 : decide ((1048576 : Int) < (t.size : Int)) = false := decide_eq_false (by omega)
  by_cases h1 : n ≤ 65536
  · by_cases h2 : s.size + t.size + n * 48 ≤ 1048576
    · rcases Nat.eq_zero_or_pos n with h0 | h0
      · subst h0
        go_enter Try.func6, Try.ntmps6
        go_wp2
        refine wp_loop_rounds 1 ?_
        rw [rounds_succ]
        go_wp2
        go_ret
        exact ⟨says_it (Nat.zero_le _), rfl⟩
      · obtain ⟨b, off, rfl, hc⟩ := h.spot h0
        have hids := h.2.2.1
        clear h
        go_enter Try.func6, Try.ntmps6
        go_wp2
        go_loop [7, 8] (fun tt i => ∃ k m : Nat, k ≤ n ∧ i = .int .i64 k ∧ tt = .int .i64 m ∧ m ≤ 1048576) (fun _ i => n - (intOf i).toNat)
        case atStart => exact ⟨0, s.size + t.size + n * 48, Nat.zero_le _, rfl, by go_num, h2⟩
        case round =>
          obtain ⟨k, m, hk, rfl, rfl, hm⟩ := hrel
          by_cases hlt : k < n
          · obtain ⟨id, hid⟩ : ∃ id, id = (bd B k).id := ⟨_, rfl⟩
            obtain ⟨hc1, _, _⟩ := hc k hlt
            have hz := hids k
            rw [← hid] at hc1 hz
            clear hc hid hids
            by_cases h3 : id.size ≤ 1048576
            · by_cases h4 : m + id.size ≤ 1048576
              · go_wp2
                go_round
                case rel => exact ⟨k + 1, m + id.size, by omega, by go_num, by go_num, h4⟩
                case measure => simp [intOf]; omega
              · go_wp2
                go_ret
                exact ⟨says_other (by simp), rfl⟩
            · go_wp2
              go_ret
              exact ⟨says_other (by simp), rfl⟩
          · go_wp2
            go_ret
            exact ⟨says_it h1, rfl⟩
    · go_enter Try.func6, Try.ntmps6
      go_wp2
      go_ret
      exact ⟨says_other (by simp), rfl⟩
  · go_enter Try.func6, Try.ntmps6
    go_wp2
    go_ret
    exact ⟨says_other (by simp), rfl⟩

set_option maxRecDepth 100000 in
set_option maxHeartbeats 400000 in
theorem bytes9_any (a : Option Addr) (n c : Nat) (B : List Bd) (q : ByteArray) (w : World) (hn : n ≤ 9223372036854775807) (hq : q.size ≤ 9223372036854775807) (h : BsAt w a n B) :
    Calls Try.prog 9 #[.slice a n c, .string q] w fun e w' => Says true (Small2 n q.size) e ∧ w = w' := by
  by_cases h1 : n ≤ 1048576
  · clear hn
    rcases Nat.eq_zero_or_pos n with h0 | h0
    · subst h0
      by_cases h2 : q.size ≤ 1048576
      · go_enter Try.func9, Try.ntmps9
        go_wp2
        refine wp_loop_rounds 1 ?_
        rw [rounds_succ]
        go_wp2
        go_ret
        exact ⟨says_it ⟨h1, h2⟩, rfl⟩
      · go_enter Try.func9, Try.ntmps9
        go_wp2
        refine wp_loop_rounds 1 ?_
        rw [rounds_succ]
        go_wp2
        go_ret
        exact ⟨says_other (by simp), rfl⟩
    · obtain ⟨b, off, rfl, hc⟩ := h.spot h0
      have hids := h.2.2.1
      clear h
      go_enter Try.func9, Try.ntmps9
      go_wp2
      go_loop [5, 6] (fun tt i => ∃ k m : Nat, k ≤ n ∧ i = .int .i64 k ∧ tt = .int .i64 m ∧ m ≤ 1048576) (fun _ i => n - (intOf i).toNat)
      case atStart => exact ⟨0, n, Nat.zero_le _, rfl, by go_num, h1⟩
      case round =>
        obtain ⟨k, m, hk, rfl, rfl, hm⟩ := hrel
        by_cases hlt : k < n
        · obtain ⟨id, hid⟩ : ∃ id, id = (bd B k).id := ⟨_, rfl⟩
          obtain ⟨hc1, _, _⟩ := hc k hlt
          have hz := hids k
          rw [← hid] at hc1 hz
          clear hc hid hids hq
          by_cases h3 : id.size ≤ 1048576
          · clear hz
            by_cases h4 : m + id.size ≤ 1048576
            · have h5' : ((m : Int) + (id.size : Int)) ≤ 1048576 := by omega
              go_upto_region 16 with (with_reducible refine wp_never ?_)
              obtain ⟨mm, hmm⟩ : ∃ mm : Nat, (m : Int) + (id.size : Int) = (mm : Int) := ⟨m + id.size, by omega⟩
              rw [hmm] at h5'
              rw [hmm]
              clear hmm hc1 h4 h3 hm
              go_upto_if 42 with (fail)
              obtain ⟨m2, hm2⟩ : ∃ m2 : Nat, (mm : Int) + 32 = (m2 : Int) := ⟨mm + 32, by omega⟩
              rw [hm2]
              clear hm2 h5'
              by_cases h5 : m2 ≤ 1048576
              · go_wp2
                go_round
                case rel => exact ⟨k + 1, m2, by omega, by go_num, by go_num, h5⟩
                case measure => simp [intOf]; omega
              · go_wp2
                go_ret
                exact ⟨says_other (by simp), rfl⟩
            · go_wp2
              go_ret
              exact ⟨says_other (by simp), rfl⟩
          · go_wp2
            go_ret
            exact ⟨says_other (by simp), rfl⟩
        · by_cases h2 : q.size ≤ 1048576
          · by_cases h3 : m + q.size ≤ 1048576
            · go_wp2
              go_ret
              exact ⟨says_it ⟨h1, h2⟩, rfl⟩
            · go_wp2
              go_ret
              exact ⟨says_other (by simp), rfl⟩
          · go_wp2
            go_ret
            exact ⟨says_other (by simp), rfl⟩
  · go_enter Try.func9, Try.ntmps9
    go_wp2
    go_ret
    exact ⟨says_other (by simp), rfl⟩
end Go.Proofs.Qxb6627777a
