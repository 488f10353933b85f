import Derived.Test.Qxb6627692aRows
import Derived.Test.Qxb6627692aPlain
import Derived.WalkKit
import Derived.WalkSpells
import Derived.WalkLawsBesides
import Derived.Below
import Derived.Deep.QuietTactic
import Derived.BigQuiet
namespace Go.Proofs.Qxb6627692a
open Go.RowKit

/-- the slice at 'a', of 'n' bytes, holds the numbers 'xs' -/
def At (w : World) (a : Option Addr) (n : Nat) (xs : List Int) : Prop :=
  xs.length = n ∧ ∀ i, i < n → ∃ b off, a = some ⟨b, off, none⟩ ∧ w.cell? ⟨b, off + i, none⟩ = some (.int .u8 (xs.getD i 0))

theorem At.spot {w : World} {a : Option Addr} {n : Nat} {xs : List Int} (h : At w a n xs) (hn : 0 < n) :
    ∃ b off, a = some ⟨b, off, none⟩ ∧ ∀ i, i < n → w.cell? ⟨b, off + i, none⟩ = some (.int .u8 (xs.getD i 0)) := by
  obtain ⟨b, off, ha, _⟩ := h.2 0 hn
  refine ⟨b, off, ha, fun i hi => ?_⟩
  obtain ⟨b', off', ha', hc⟩ := h.2 i hi
  rw [ha] at ha'
  simp at ha'
  obtain ⟨rfl, rfl⟩ := ha'
  exact hc

theorem ret_bool {a b : Bool} (h : a = b) : Ending.returned (.bool a) = .returned (.bool b) := by rw [h]
theorem ret_int {k : IntKind} {a b : Int} (h : a = b) : Ending.returned (.int k a) = .returned (.int k b) := by rw [h]

set_option maxHeartbeats 400000 in
theorem eq_same (a b : Option Addr) (n c d : Nat) (xs : List Int) (w : World) (hn : n ≤ 1048576) (ha : At w a n xs) (hb : At w b n xs) :
    Calls Try.prog 7 #[.slice a n c, .slice b n d] w fun e w' => e = .returned (.bool true) ∧ ∃ q, w' = w.drewN q := by
  rcases Nat.eq_zero_or_pos n with h0 | h0
  · subst h0
    go_enter Try.func7, Try.ntmps7
    go_wp2
    refine wp_loop_rounds 1 ?_
    rw [rounds_succ]
    go_wp2
    go_ret
    exact ⟨rfl, 0, rfl⟩
  · obtain ⟨ba, oa, rfl, hca⟩ := ha.spot h0
    obtain ⟨bb, ob, rfl, hcb⟩ := hb.spot h0
    clear ha hb
    go_enter Try.func7, Try.ntmps7
    go_wp2
    go_loopw [5] (fun i wr => ∃ k q : Nat, k ≤ n ∧ i = .int .i64 k ∧ wr = w.drewN q) (fun i _ => n - (intOf i).toNat)
    case atStart => exact ⟨0, 0, Nat.zero_le _, rfl, rfl⟩
    case round =>
      obtain ⟨k, q, hk, rfl, rfl⟩ := hrel
      by_cases hlt : k < n
      · have h1 := hca k hlt
        have h2 := hcb k hlt
        clear hca hcb
        go_wp2
        go_quiet (fail)
        go_wp2
        go_roundw
        case rel => exact ⟨k + 1, _, by omega, by go_num, rfl⟩
        case measure => simp [intOf]; omega
      · go_wp2
        go_ret
        exact ⟨rfl, _, rfl⟩

set_option maxHeartbeats 400000 in
theorem pre_any (a b : Option Addr) (n m c d : Nat) (ys xs : List Int) (w : World) (hn : n ≤ 1048576) (hm : m ≤ 1048576) (ha : At w a n ys) (hb : At w b m xs) :
    Calls Try.prog 9 #[.slice a n c, .slice b m d] w fun e w' => e = .returned (.bool (preL ys xs)) ∧ ∃ q, w' = w.drewN q := by
  by_cases hnm : n < m
  · have hp := pre_short ys xs (by rw [ha.1, hb.1]; exact hnm)
    rw [hp]
    go_enter Try.func9, Try.ntmps9
    go_wp2
    go_ret
    exact ⟨rfl, 0, rfl⟩
  rcases Nat.eq_zero_or_pos m with h0 | h0
  · subst h0
    have hp := pre_end ys xs 0 (by rw [hb.1]; exact Nat.le_refl _)
    simp only [List.drop_zero] at hp
    rw [hp]
    go_enter Try.func9, Try.ntmps9
    go_wp2
    refine wp_loop_rounds 1 ?_
    rw [rounds_succ]
    go_wp2
    go_ret
    exact ⟨rfl, 0, rfl⟩
  · obtain ⟨ba, oa, rfl, hca⟩ := ha.spot (by omega)
    obtain ⟨bb, ob, rfl, hcb⟩ := hb.spot h0
    have hla := ha.1
    have hlb := hb.1
    have HP : Hid (∀ k, k < m → preL (ys.drop k) (xs.drop k) = (ys.getD k 0 == xs.getD k 0 && preL (ys.drop (k + 1)) (xs.drop (k + 1)))) := fun k hk => pre_step ys xs k (by omega) (by omega)
    have HE : Hid (∀ k, m ≤ k → preL (ys.drop k) (xs.drop k) = true) := fun k hk => pre_end ys xs k (by omega)
    clear ha hb hla hlb
    obtain ⟨r, hr⟩ : ∃ r, r = preL ys xs := ⟨_, rfl⟩
    rw [← hr]
    have HR : Hid (r = preL ys xs) := hr
    clear hr
    go_enter Try.func9, Try.ntmps9
    go_wp2
    go_loopw [5] (fun i wr => ∃ k q : Nat, k ≤ m ∧ i = .int .i64 k ∧ wr = w.drewN q ∧ r = preL (ys.drop k) (xs.drop k)) (fun i _ => m - (intOf i).toNat)
    case atStart => exact ⟨0, 0, Nat.zero_le _, rfl, rfl, HR.out⟩
    case round =>
      obtain ⟨k, q, hk, rfl, rfl, hr⟩ := hrel
      have H : Hid (r = preL (ys.drop k) (xs.drop k)) := hr
      clear hr
      by_cases hlt : k < m
      · have h1 := hca k (by omega)
        have h2 := hcb k hlt
        clear hca hcb
        go_wp2
        go_quiet (fail)
        go_wp2
        · have hne : (ys[k]?.getD 0 != xs[k]?.getD 0) = true := by assumption
          have hf : r = false := by rw [H.out, HP.out k hlt]; simp at hne; simp [hne]
          go_ret
          exact ⟨ret_bool hf.symm, _, World.drewN_drewN ..⟩
        · have hne : (ys[k]?.getD 0 != xs[k]?.getD 0) = false := by assumption
          go_roundw
          case rel => exact ⟨k + 1, _, by omega, by go_num, rfl, by rw [H.out, HP.out k hlt]; simp at hne; simp [hne]⟩
          case measure => simp [intOf]; omega
      · go_wp2
        go_ret
        exact ⟨ret_bool (by rw [H.out, HE.out k (by omega)]), _, rfl⟩

set_option maxHeartbeats 800000 in
theorem cmp_any (a b : Option Addr) (n m c d : Nat) (ys xs : List Int) (w : World) (hn : n ≤ 1048576) (hm : m ≤ 1048576) (ha : At w a n ys) (hb : At w b m xs) :
    Calls Try.prog 8 #[.slice a n c, .slice b m d] w fun e w' => e = .returned (.int .i64 (cmpL ys xs)) ∧ ∃ q, w' = w.drewN q := by
  have hla := ha.1
  have hlb := hb.1
  have HP : Hid (∀ k, k < n → k < m → cmpL (ys.drop k) (xs.drop k) = if ys.getD k 0 < xs.getD k 0 then -1 else if xs.getD k 0 < ys.getD k 0 then 1 else cmpL (ys.drop (k + 1)) (xs.drop (k + 1))) := fun k h1 h2 => cmp_step ys xs k (by omega) (by omega)
  have HE : Hid (∀ k, n ≤ k ∨ m ≤ k → k ≤ n → k ≤ m → cmpL (ys.drop k) (xs.drop k) = if n < m then -1 else if m < n then 1 else 0) := fun k h h1 h2 => by
    have := cmp_end ys xs k (by omega) (by omega) (by omega)
    rw [hla, hlb] at this
    exact this
  obtain ⟨r, hr⟩ : ∃ r, r = cmpL ys xs := ⟨_, rfl⟩
  rw [← hr]
  have HR : Hid (r = cmpL ys xs) := hr
  clear hr hla hlb
  by_cases h0 : n = 0 ∨ m = 0
  · have HZ : Hid (r = if n < m then -1 else if m < n then 1 else 0) := by
      have := HE.out 0 (by omega) (by omega) (by omega)
      simp only [List.drop_zero] at this
      exact HR.out.trans this
    clear HR HP HE ha hb
    rcases Nat.lt_trichotomy n m with hlt | heq | hgt
    · have hf : (-1 : Int) = r := by rw [HZ.out, if_pos hlt]
      obtain rfl : n = 0 := by omega
      clear HZ h0
      go_enter Try.func8, Try.ntmps8
      go_wp2
      refine wp_loop_rounds 1 ?_
      rw [rounds_succ]
      go_wp2
      go_ret
      exact ⟨ret_int hf, 0, rfl⟩
    · have hf : (0 : Int) = r := by rw [HZ.out, if_neg (by omega), if_neg (by omega)]
      obtain rfl : n = 0 := by omega
      obtain rfl : m = 0 := by omega
      clear HZ h0
      go_enter Try.func8, Try.ntmps8
      go_wp2
      refine wp_loop_rounds 1 ?_
      rw [rounds_succ]
      go_wp2
      go_ret
      exact ⟨ret_int hf, 0, rfl⟩
    · have hf : (1 : Int) = r := by rw [HZ.out, if_neg (by omega), if_pos hgt]
      obtain rfl : m = 0 := by omega
      clear HZ h0
      go_enter Try.func8, Try.ntmps8
      go_wp2
      refine wp_loop_rounds 1 ?_
      rw [rounds_succ]
      go_wp2
      go_ret
      exact ⟨ret_int hf, 0, rfl⟩
  · obtain ⟨ba, oa, rfl, hca⟩ := ha.spot (by omega)
    obtain ⟨bb, ob, rfl, hcb⟩ := hb.spot (by omega)
    clear ha hb h0
    go_enter Try.func8, Try.ntmps8
    by_cases hmn : m < n
    · go_wp2
      go_loopw [6] (fun i wr => ∃ k q : Nat, k ≤ m ∧ i = .int .i64 k ∧ wr = w.drewN q ∧ r = cmpL (ys.drop k) (xs.drop k)) (fun i _ => m - (intOf i).toNat)
      case atStart => exact ⟨0, 0, Nat.zero_le _, rfl, rfl, HR.out⟩
      case round =>
        obtain ⟨k, q, hk, rfl, rfl, hr⟩ := hrel
        have H : Hid (r = cmpL (ys.drop k) (xs.drop k)) := hr
        clear hr
        by_cases hlt : k < m
        · have hk1 : k < n := by omega
          have hk2 : k < m := by omega
          have h1 := hca k hk1
          have h2 := hcb k hk2
          have HS : Hid (r = if ys[k]?.getD 0 < xs[k]?.getD 0 then -1 else if xs[k]?.getD 0 < ys[k]?.getD 0 then 1 else cmpL (ys.drop (k + 1)) (xs.drop (k + 1))) := H.out.trans (HP.out k hk1 hk2)
          clear hca hcb HP HE HR H
          rcases Int.lt_trichotomy (ys[k]?.getD 0) (xs[k]?.getD 0) with hc | hc | hc
          · have HF : Hid ((-1 : Int) = r) := by rw [HS.out, if_pos hc]; rfl
            clear HS
            go_wp2
            go_quiet (fail)
            go_wp2
            go_ret
            exact ⟨ret_int HF.out, _, World.drewN_drewN ..⟩
          · have hc1 : ¬ ys[k]?.getD 0 < xs[k]?.getD 0 := by omega
            have hc2 : ¬ xs[k]?.getD 0 < ys[k]?.getD 0 := by omega
            have HF : Hid (r = cmpL (ys.drop (k + 1)) (xs.drop (k + 1))) := by rw [HS.out, if_neg hc1, if_neg hc2]; rfl
            clear hc HS
            go_wp2
            go_quiet (fail)
            go_wp2
            go_quiet (fail)
            go_wp2
            go_roundw
            case rel => exact ⟨k + 1, _, by omega, by go_num, rfl, HF.out⟩
            case measure => simp [intOf]; omega
          · have hc1 : ¬ ys[k]?.getD 0 < xs[k]?.getD 0 := by omega
            have HF : Hid ((1 : Int) = r) := by rw [HS.out, if_neg hc1, if_pos hc]; rfl
            clear HS
            go_wp2
            go_quiet (fail)
            go_wp2
            go_quiet (fail)
            go_wp2
            go_ret
            exact ⟨ret_int HF.out, by simp only [World.drewN_drewN]; exact ⟨_, rfl⟩⟩
        · have HS : Hid (r = if n < m then -1 else if m < n then 1 else 0) := H.out.trans (HE.out k (by omega) (by omega) (by omega))
          clear hca hcb HP HE HR H
          have hf : (1 : Int) = r := by rw [HS.out, if_neg (by omega), if_pos hmn]
          clear HS
          go_wp2
          go_ret
          exact ⟨ret_int hf, _, rfl⟩
    · go_wp2
      go_loopw [6] (fun i wr => ∃ k q : Nat, k ≤ n ∧ i = .int .i64 k ∧ wr = w.drewN q ∧ r = cmpL (ys.drop k) (xs.drop k)) (fun i _ => n - (intOf i).toNat)
      case atStart => exact ⟨0, 0, Nat.zero_le _, rfl, rfl, HR.out⟩
      case round =>
        obtain ⟨k, q, hk, rfl, rfl, hr⟩ := hrel
        have H : Hid (r = cmpL (ys.drop k) (xs.drop k)) := hr
        clear hr
        by_cases hlt : k < n
        · have hk1 : k < n := by omega
          have hk2 : k < m := by omega
          have h1 := hca k hk1
          have h2 := hcb k hk2
          have HS : Hid (r = if ys[k]?.getD 0 < xs[k]?.getD 0 then -1 else if xs[k]?.getD 0 < ys[k]?.getD 0 then 1 else cmpL (ys.drop (k + 1)) (xs.drop (k + 1))) := H.out.trans (HP.out k hk1 hk2)
          clear hca hcb HP HE HR H
          rcases Int.lt_trichotomy (ys[k]?.getD 0) (xs[k]?.getD 0) with hc | hc | hc
          · have HF : Hid ((-1 : Int) = r) := by rw [HS.out, if_pos hc]; rfl
            clear HS
            go_wp2
            go_quiet (fail)
            go_wp2
            go_ret
            exact ⟨ret_int HF.out, _, World.drewN_drewN ..⟩
          · have hc1 : ¬ ys[k]?.getD 0 < xs[k]?.getD 0 := by omega
            have hc2 : ¬ xs[k]?.getD 0 < ys[k]?.getD 0 := by omega
            have HF : Hid (r = cmpL (ys.drop (k + 1)) (xs.drop (k + 1))) := by rw [HS.out, if_neg hc1, if_neg hc2]; rfl
            clear hc HS
            go_wp2
            go_quiet (fail)
            go_wp2
            go_quiet (fail)
            go_wp2
            go_roundw
            case rel => exact ⟨k + 1, _, by omega, by go_num, rfl, HF.out⟩
            case measure => simp [intOf]; omega
          · have hc1 : ¬ ys[k]?.getD 0 < xs[k]?.getD 0 := by omega
            have HF : Hid ((1 : Int) = r) := by rw [HS.out, if_neg hc1, if_pos hc]; rfl
            clear HS
            go_wp2
            go_quiet (fail)
            go_wp2
            go_quiet (fail)
            go_wp2
            go_ret
            exact ⟨ret_int HF.out, by simp only [World.drewN_drewN]; exact ⟨_, rfl⟩⟩
        · have HS : Hid (r = if n < m then -1 else if m < n then 1 else 0) := H.out.trans (HE.out k (by omega) (by omega) (by omega))
          clear hca hcb HP HE HR H
          by_cases hnm : n < m
          · have hf : (-1 : Int) = r := by rw [HS.out, if_pos hnm]
            clear HS
            go_wp2
            go_ret
            exact ⟨ret_int hf, _, rfl⟩
          · have hf : (0 : Int) = r := by rw [HS.out, if_neg hnm, if_neg hmn]
            clear HS
            go_wp2
            go_ret
            exact ⟨ret_int hf, _, rfl⟩

end Go.Proofs.Qxb6627692a
