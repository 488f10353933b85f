import Derived.Test.Qxb6627745aRuns
import Derived.Deep.QuietTactic
import Derived.BigQuiet
namespace Go.Proofs.Qxb6627745a
open Go.RowKit

theorem isId_one (a b : ByteArray) (c : UInt8) : isId (a ++ ⟨#[c]⟩ ++ b) = (isId (a ++ ⟨#[48]⟩ ++ b) && isId ⟨(List.replicate 40 c).toArray⟩) := by
  have h := idL_one a.data.toList b.data.toList c
  simpa [isId] using h
theorem isId_run (c : UInt8) : isId ⟨(List.replicate 40 c).toArray⟩ = hexB c.toNat := by
  have h := idL_run c
  simpa [isId] using h

theorem id_is (s : ByteArray) (r : Bool) (hr : Hid (isId s = r)) (w : World) :
    Calls Try.prog 6 #[.string s] w fun e w' => e = .returned (.bool r) ∧ Below w.heap.size w w' := by
  rw [← hr.out]
  exact id_any s w
theorem run_is (c : Int) (t : ByteArray) (ht : Hid (⟨(List.replicate 40 (UInt8.ofNat c.toNat)).toArray⟩ = t)) (w : World) (h0 : 0 ≤ c) (h1 : c ≤ 255) :
    Calls Try.prog 10 #[.int .u8 c] w fun e w' => e = .returned (.string t) ∧ Below w.heap.size w w' := by
  rw [← ht.out]
  exact run40 c w h0 h1

theorem one_bytes (s : ByteArray) (i c : Int) (w : World) (hs : s.size ≤ 1048576) :
    Calls Try.prog 9 #[.string s, .int .i64 i, .int .u8 c] w fun e w' => e = .returned (.bool true) ∧ w = w' := by
  go_enter Try.func9, Try.ntmps9
  go_wp2
  go_ret
  exact ⟨rfl, rfl⟩
theorem one_big (s : ByteArray) (i c : Int) (w : World) (hs : 1048576 < s.size) (hm : s.size ≤ 9223372036854775807) :
    Calls Try.prog 4 #[.string s, .int .i64 i, .int .u8 c] w fun e w' => e = .returned (.bool true) ∧ w = w' := by
  go_enter Try.func4, Try.ntmps4
  go_wp2
  go_ret
  exact ⟨rfl, rfl⟩
theorem one_neg (s : ByteArray) (i c : Int) (w : World) (hs : s.size ≤ 1048576) (hi : i < 0) :
    Calls Try.prog 4 #[.string s, .int .i64 i, .int .u8 c] w fun e w' => e = .returned (.bool true) ∧ w = w' := by
  have g1 : decide (i < 0) = true := decide_eq_true hi
  go_enter Try.func4, Try.ntmps4
  go_wp2_with (go_at_call 9; refine (one_bytes _ _ _ _ hs).mono ?_; rintro e w' ⟨rfl, rfl⟩)
  go_ret
  exact ⟨rfl, rfl⟩
theorem one_past (s : ByteArray) (i c : Int) (w : World) (hs : s.size ≤ 1048576) (hi : 0 ≤ i) (h2 : (s.size : Int) ≤ i) :
    Calls Try.prog 4 #[.string s, .int .i64 i, .int .u8 c] w fun e w' => e = .returned (.bool true) ∧ w = w' := by
  have g1 : decide (i < 0) = false := decide_eq_false (by omega)
  have g2 : decide ((s.size : Int) ≤ i) = true := decide_eq_true h2
  go_enter Try.func4, Try.ntmps4
  go_wp2_with (go_at_call 9; refine (one_bytes _ _ _ _ hs).mono ?_; rintro e w' ⟨rfl, rfl⟩)
  go_ret
  exact ⟨rfl, rfl⟩

set_option maxRecDepth 100000 in
set_option maxHeartbeats 800000 in
theorem one_main (s : ByteArray) (j : Nat) (c : Int) (w : World) (hs : s.size ≤ 1048576) (hj : j < s.size) (h0 : 0 ≤ c) (h1 : c ≤ 255) :
    Calls Try.prog 4 #[.string s, .int .i64 j, .int .u8 c] w fun e w' => e = .returned (.bool true) ∧ Below w.heap.size w w' := by
  obtain ⟨i0, hi, hz0, hz1, hz2⟩ := info_parts Try.info5
  have g1 : decide ((j : Int) < 0) = false := decide_eq_false (by omega)
  have g2 : decide ((s.size : Int) ≤ (j : Int)) = false := decide_eq_false (by omega)
  go_enter Try.func4, Try.ntmps4
  go_wp2_with (first | (go_at_call 9; refine (one_bytes _ _ _ _ hs).mono ?_; rintro e w' ⟨rfl, rfl⟩) | (at_make; refine wpList_make_full _ rfl _ _ 27 rfl w.heap.size 5 i0 (.int .u8 0) 1 Try.underlying27 hi hz0 hz1 .i64 .i64 _ _ 1 rfl rfl rfl rfl (by rw [hz2]; omega) (by unfold maxLen; omega) (Nat.le_refl _) ?_; intro w1 hown hgrow; obtain ⟨u, h2⟩ := own_cell (own_made hown) (k := 0) (by simp) (by omega); have h3 := own_frozen (own_made hown) 0))
  have hconv : ∀ q, (convert 27 9 (.slice (some ⟨w.heap.size, 0, none⟩) 1 1)).run Try.prog ((w1.setCell ⟨w.heap.size, 0, none⟩ (.int .u8 c)).drewN q) = .ok (.string ⟨#[UInt8.ofNat c.toNat]⟩) ((w1.setCell ⟨w.heap.size, 0, none⟩ (.int .u8 c)).drewN q) := fun q => by
    have ho := own_store (own_made hown) (k := 0) rfl (by omega) c
    refine own_string (l := [UInt8.ofNat c.toNat]) ?_ rfl
    show own w.heap.size 1 ((w1.setCell ⟨w.heap.size, 0, none⟩ (.int .u8 c)).drewN q) [((UInt8.ofNat c.toNat).toNat : Int)]
    rw [byte_of c h0 h1]
    exact ho
  have HB : Hid (∀ q, Below w.heap.size w ((w1.setCell ⟨w.heap.size, 0, none⟩ (.int .u8 c)).drewN q)) := fun q => below_drewN (((Below.refl _ _).grown hgrow (Nat.le_refl _) (by simp)).setCell (Nat.le_refl _) _) q
  clear hown hgrow h2 h3
  go_quiet (fail)
  go_wp2
  go_quiet (fail)
  clear hconv
  obtain ⟨rn, hrn⟩ : ∃ t : ByteArray, ⟨(List.replicate 40 (UInt8.ofNat c.toNat)).toArray⟩ = t := ⟨_, rfl⟩
  obtain ⟨bc, hbc⟩ : ∃ b, isId rn = b := ⟨_, rfl⟩
  obtain ⟨bz, hbz⟩ : ∃ b, isId (s.extract 0 j ++ ⟨#[48]⟩ ++ s.extract (j + 1) s.size) = b := ⟨_, rfl⟩
  have HU : Hid (isId (s.extract 0 j ++ ⟨#[UInt8.ofNat c.toNat]⟩ ++ s.extract (j + 1) s.size) = (bz && bc)) := by
    rw [isId_one, hbz, hrn, hbc]; rfl
  have HRN : Hid (⟨(List.replicate 40 (UInt8.ofNat c.toNat)).toArray⟩ = rn) := hrn
  have HBC : Hid (isId rn = bc) := hbc
  have HBZ : Hid (isId (s.extract 0 j ++ ⟨#[48]⟩ ++ s.extract (j + 1) s.size) = bz) := hbz
  clear hrn hbc hbz
  cases bz with
  | false =>
    go_wp2_with fail
    refine (id_is _ _ HBZ _).mono ?_
    rintro e w2 ⟨rfl, b2⟩
    have B2 : Hid (Below w.heap.size w w2) := (HB.out _).trans (b2.mono (HB.out _).size)
    clear b2 HB
    go_wp2_with fail
    have HW : Hid (isId (s.extract 0 j ++ ⟨#[UInt8.ofNat c.toNat]⟩ ++ s.extract (j + 1) s.size) = false) := HU.out
    clear HU HRN HBC HBZ
    go_loopw [11, 12] (fun n b wr => ∃ k : Nat, k ≤ 256 ∧ b = .int .i64 k ∧ n = .int .i64 (cntHex k) ∧ Below w.heap.size w wr) (fun _ b _ => 256 - (intOf b).toNat)
    case atStart => exact ⟨0, by omega, rfl, rfl, B2.out⟩
    case round =>
      obtain ⟨k, hk, rfl, rfl, hb⟩ := hrel
      have BR : Hid (Below w.heap.size w wr) := hb
      clear hb B2
      by_cases hlt : k < 256
      · obtain ⟨rk, hrk⟩ : ∃ t : ByteArray, ⟨(List.replicate 40 (UInt8.ofNat (k : Int).toNat)).toArray⟩ = t := ⟨_, rfl⟩
        have HRK : Hid (⟨(List.replicate 40 (UInt8.ofNat (k : Int).toNat)).toArray⟩ = rk) := hrk
        have HIK : Hid (isId rk = hexB k) := by
          rw [← hrk, isId_run]
          have : (UInt8.ofNat (k : Int).toNat).toNat = k := by simp; omega
          rw [this]; rfl
        clear hrk
        have hcl := cntHex_le k
        obtain ⟨hx, hhx⟩ : ∃ b, hexB k = b := ⟨_, rfl⟩
        have HC : Hid (cntHex (k + 1) = cntHex k + (if hx then 1 else 0)) := by show cntHex k + _ = _; rw [hhx]
        rw [hhx] at HIK
        clear hhx
        go_wp2_with fail
        refine (run_is k rk HRK _ (by omega) (by omega)).mono ?_
        rintro e w4 ⟨rfl, b4⟩
        have B4 : Hid (Below w.heap.size w w4) := BR.out.trans (b4.mono BR.out.size)
        clear BR b4
        go_wp2_with fail
        refine (id_is rk hx HIK _).mono ?_
        rintro e w5 ⟨rfl, b5⟩
        have B5 : Hid (Below w.heap.size w w5) := B4.out.trans (b5.mono B4.out.size)
        clear B4 b5
        cases hx with
        | true =>
          go_wp2
          go_roundw
          case rel => exact ⟨k + 1, by omega, by go_num, by rw [HC.out]; go_num, B5.out⟩
          case measure => simp [intOf]; omega
        | false =>
          go_wp2
          go_roundw
          case rel => exact ⟨k + 1, by omega, by go_num, by rw [HC.out]; go_num, B5.out⟩
          case measure => simp [intOf]; omega
      · obtain rfl : k = 256 := by omega
        rw [cntHex_all]
        go_wp2_with fail
        refine (id_is _ _ HW _).mono ?_
        rintro e w4 ⟨rfl, b4⟩
        have B4 : Hid (Below w.heap.size w w4) := BR.out.trans (b4.mono BR.out.size)
        clear BR b4
        go_wp2
        go_ret
        exact ⟨rfl, B4.out⟩
  | true => 
    go_wp2_with fail
    refine (id_is _ _ HBZ _).mono ?_
    rintro e w2 ⟨rfl, b2⟩
    have B1 : Hid (Below w.heap.size w w2) := (HB.out _).trans (b2.mono (HB.out _).size)
    clear b2 HB
    go_wp2_with fail
    refine (run_is c rn HRN _ h0 h1).mono ?_
    rintro e w3 ⟨rfl, b3⟩
    have B3 : Hid (Below w.heap.size w w3) := B1.out.trans (b3.mono B1.out.size)
    clear B1 b3
    go_wp2_with fail
    refine (id_is rn bc HBC _).mono ?_
    rintro e w3' ⟨rfl, b3⟩
    have B2 : Hid (Below w.heap.size w w3') := B3.out.trans (b3.mono B3.out.size)
    clear B3 b3
    go_wp2_with fail
    have HW : Hid (isId (s.extract 0 j ++ ⟨#[UInt8.ofNat c.toNat]⟩ ++ s.extract (j + 1) s.size) = bc) := HU.out
    clear HU HRN HBC HBZ
    go_loopw [11, 12] (fun n b wr => ∃ k : Nat, k ≤ 256 ∧ b = .int .i64 k ∧ n = .int .i64 (cntHex k) ∧ Below w.heap.size w wr) (fun _ b _ => 256 - (intOf b).toNat)
    case atStart => exact ⟨0, by omega, rfl, rfl, B2.out⟩
    case round =>
      obtain ⟨k, hk, rfl, rfl, hb⟩ := hrel
      have BR : Hid (Below w.heap.size w wr) := hb
      clear hb B2
      by_cases hlt : k < 256
      · obtain ⟨rk, hrk⟩ : ∃ t : ByteArray, ⟨(List.replicate 40 (UInt8.ofNat (k : Int).toNat)).toArray⟩ = t := ⟨_, rfl⟩
        have HRK : Hid (⟨(List.replicate 40 (UInt8.ofNat (k : Int).toNat)).toArray⟩ = rk) := hrk
        have HIK : Hid (isId rk = hexB k) := by
          rw [← hrk, isId_run]
          have : (UInt8.ofNat (k : Int).toNat).toNat = k := by simp; omega
          rw [this]; rfl
        clear hrk
        have hcl := cntHex_le k
        obtain ⟨hx, hhx⟩ : ∃ b, hexB k = b := ⟨_, rfl⟩
        have HC : Hid (cntHex (k + 1) = cntHex k + (if hx then 1 else 0)) := by show cntHex k + _ = _; rw [hhx]
        rw [hhx] at HIK
        clear hhx
        go_wp2_with fail
        refine (run_is k rk HRK _ (by omega) (by omega)).mono ?_
        rintro e w4 ⟨rfl, b4⟩
        have B4 : Hid (Below w.heap.size w w4) := BR.out.trans (b4.mono BR.out.size)
        clear BR b4
        go_wp2_with fail
        refine (id_is rk hx HIK _).mono ?_
        rintro e w5 ⟨rfl, b5⟩
        have B5 : Hid (Below w.heap.size w w5) := B4.out.trans (b5.mono B4.out.size)
        clear B4 b5
        cases hx with
        | true =>
          go_wp2
          go_roundw
          case rel => exact ⟨k + 1, by omega, by go_num, by rw [HC.out]; go_num, B5.out⟩
          case measure => simp [intOf]; omega
        | false =>
          go_wp2
          go_roundw
          case rel => exact ⟨k + 1, by omega, by go_num, by rw [HC.out]; go_num, B5.out⟩
          case measure => simp [intOf]; omega
      · obtain rfl : k = 256 := by omega
        rw [cntHex_all]
        go_wp2_with fail
        refine (id_is _ _ HW _).mono ?_
        rintro e w4 ⟨rfl, b4⟩
        have B4 : Hid (Below w.heap.size w w4) := BR.out.trans (b4.mono BR.out.size)
        clear BR b4
        go_wp2
        go_ret
        exact ⟨rfl, B4.out⟩
end Go.Proofs.Qxb6627745a
