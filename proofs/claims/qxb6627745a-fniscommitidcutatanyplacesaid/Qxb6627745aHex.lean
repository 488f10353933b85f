import Derived.Test.Qxb6627745aRuns
namespace Go.Proofs.Qxb6627745a
open Go.RowKit

theorem dig_hex (i : Nat) (h : i < 16) : hexB ((⟨#[48, 49, 50, 51, 52, 53, 54, 55, 56, 57, 97, 98, 99, 100, 101, 102]⟩ : ByteArray)[i]'h).toNat = true := by
  have : ∀ i : Fin 16, hexB ((⟨#[48, 49, 50, 51, 52, 53, 54, 55, 56, 57, 97, 98, 99, 100, 101, 102]⟩ : ByteArray)[i.val]'i.2).toNat = true := by decide
  exact this ⟨i, h⟩
theorem own_two {B k : Nat} {wr : World} {l : List UInt8} (h : own B 40 wr (l.map fun b => (b.toNat : Int))) (hl : l.length = 2 * k) (hk : k < 20) (b0 b1 : UInt8) :
    own B 40 ((wr.setCell ⟨B, 2 * k, none⟩ (.int .u8 b0.toNat)).setCell ⟨B, 2 * k + 1, none⟩ (.int .u8 b1.toNat)) ((l ++ [b0, b1]).map fun b => (b.toNat : Int)) := by
  have h1 := own_store (own_store h (k := 2 * k) (by simpa using hl) (by omega) b0.toNat) (k := 2 * k + 1) (by simp [hl]) (by omega) b1.toNat
  have e : (l.map fun b => (b.toNat : Int)) ++ [(b0.toNat : Int)] ++ [(b1.toNat : Int)] = (l ++ [b0, b1]).map fun b => (b.toNat : Int) := by simp
  rw [e] at h1
  exact h1
theorem all_two {l : List UInt8} (h : l.all (fun b => hexB b.toNat) = true) (b0 b1 : UInt8) (h0 : hexB b0.toNat = true) (h1 : hexB b1.toNat = true) : (l ++ [b0, b1]).all (fun b => hexB b.toNat) = true := by
  rw [List.all_append, h]
  simp [h0, h1]

set_option maxRecDepth 100000 in
set_option maxHeartbeats 800000 in
theorem hex_any (s : ByteArray) (w : World) :
    Calls Try.prog 8 #[.string s] w fun e w' => ∃ l : List UInt8, e = .returned (.string ⟨l.toArray⟩) ∧ l.length = 40 ∧ l.all (fun b => hexB b.toNat) = true ∧ Below w.heap.size w w' := by
  obtain ⟨i0, hi, hz0, hz1, hz2⟩ := info_parts Try.info5
  go_enter Try.func8, Try.ntmps8
  go_wp2_with (at_make; refine wpList_make_full _ rfl _ _ 27 rfl w.heap.size 5 i0 (.int .u8 0) 1 Try.underlying27 hi hz0 hz1 .i64 .i64 _ _ 40 rfl rfl rfl rfl (by rw [hz2]; omega) (by unfold maxLen; omega) (Nat.le_refl _) ?_; intro w1 hown hgrow)
  have hown1 := own_made hown
  have hb1 : Below w.heap.size w w1 := (Below.refl _ _).grown hgrow (Nat.le_refl _) (by simp)
  clear hown hgrow
  go_loopw [4] (fun i wr => ∃ (k : Nat) (l : List UInt8), k ≤ 20 ∧ i = .int .i64 k ∧ l.length = 2 * k ∧ l.all (fun b => hexB b.toNat) = true ∧ own w.heap.size 40 wr (l.map fun b => (b.toNat : Int)) ∧ Below w.heap.size w wr) (fun i _ => 20 - (intOf i).toNat)
  case atStart => exact ⟨0, [], by omega, rfl, rfl, rfl, hown1, hb1⟩
  case round =>
    obtain ⟨k, l, hk, rfl, hl, hall, hown, hb⟩ := hrel
    clear hown1 hb1
    by_cases hlt : k < 20
    · obtain ⟨u0, h20⟩ := own_cell hown (k := 2 * k) (by simp; omega) (by omega)
      obtain ⟨u1, h21⟩ := own_cell hown (k := 2 * k + 1) (by simp; omega) (by omega)
      have h30 := own_frozen hown (2 * k)
      have h31 := own_frozen hown (2 * k + 1)
      have HO : Hid (own w.heap.size 40 wr (l.map fun b => (b.toNat : Int))) := hown
      have HB : Hid (Below w.heap.size w wr) := hb
      have HL : Hid (l.length = 2 * k) := hl
      have HA : Hid (l.all (fun b => hexB b.toNat) = true) := hall
      clear hown hb hl hall
      by_cases hks : k < s.size
      · have hx2 : (s[k]'hks).toNat < 256 := UInt8.toNat_lt _
        have hx3 : (s[k]'hks).toNat / 16 < 16 := by omega
        have hx4 : (s[k]'hks).toNat % 16 < 16 := by omega
        go_wp2
        go_roundw
        case rel => exact ⟨k + 1, _, by omega, by go_num, by simp [HL.out]; omega, all_two HA.out _ _ (dig_hex _ hx3) (dig_hex _ hx4), own_two HO.out HL.out hlt _ _, (HB.out.setCell (Nat.le_refl _) _).setCell (Nat.le_refl _) _⟩
        case measure => simp [intOf]; omega
      · go_wp2
        go_roundw
        case rel => exact ⟨k + 1, _, by omega, by go_num, by simp [HL.out]; omega, all_two HA.out 48 48 (by decide) (by decide), own_two HO.out HL.out hlt 48 48, (HB.out.setCell (Nat.le_refl _) _).setCell (Nat.le_refl _) _⟩
        case measure => simp [intOf]; omega
    · obtain rfl : k = 20 := by omega
      have hconv := own_string hown hl
      clear hown
      go_wp2
      go_ret
      exact ⟨l, rfl, hl, hall, hb⟩
end Go.Proofs.Qxb6627745a
