import Derived.Test.Qxb6627745aHex
namespace Go.Proofs.Qxb6627745a
open Go.RowKit

theorem id_iss (s : ByteArray) (r : Bool) (hr : Hid (isId s = r)) (w : World) :
    Calls Try.prog 6 #[.string s] w fun e w' => e = .returned (.bool r) ∧ Below w.heap.size w w' := by
  rw [← hr.out]
  exact id_any s w
theorem zeros_is (m : Int) (n : Nat) (t : ByteArray) (hm : m = n) (hn : n ≤ 40) (ht : Hid (⟨(List.replicate n (48 : UInt8)).toArray⟩ = t)) (w : World) :
    Calls Try.prog 7 #[.int .i64 m] w fun e w' => e = .returned (.string t) ∧ Below w.heap.size w w' := by
  rw [← ht.out, hm]
  exact zeros_any n w hn

theorem isId_cut (a b : ByteArray) (k m : Nat) (h : a.size + b.size = 40) (hk : k = 40 - a.size) (hm : m = 40 - b.size) :
    isId (a ++ b) = (isId (a ++ ⟨(List.replicate k (48 : UInt8)).toArray⟩) && isId (⟨(List.replicate m (48 : UInt8)).toArray⟩ ++ b)) := by
  have := idL_cut a.data.toList b.data.toList k m (by simpa using h) (by simpa using hk) (by simpa using hm)
  simpa [isId] using this

theorem cut_bytes (s : ByteArray) (i : Int) (w : World) (hs : s.size ≤ 1048576) :
    Calls Try.prog 5 #[.string s, .int .i64 i] w fun e w' => e = .returned (.bool true) ∧ w = w' := by
  go_enter Try.func5, Try.ntmps5
  go_wp2
  go_ret
  exact ⟨rfl, rfl⟩
theorem cut_big (s : ByteArray) (i : Int) (w : World) (hs : 1048576 < s.size) (hm : s.size ≤ 9223372036854775807) :
    Calls Try.prog 3 #[.string s, .int .i64 i] w fun e w' => e = .returned (.bool true) ∧ w = w' := by
  go_enter Try.func3, Try.ntmps3
  go_wp2
  go_ret
  exact ⟨rfl, rfl⟩
theorem cut_neg (s : ByteArray) (i : Int) (w : World) (hs : s.size ≤ 1048576) (hi : i < 0) :
    Calls Try.prog 3 #[.string s, .int .i64 i] w fun e w' => e = .returned (.bool true) ∧ w = w' := by
  have g1 : decide (i < 0) = true := decide_eq_true hi
  go_enter Try.func3, Try.ntmps3
  go_wp2_with (go_at_call 5; refine (cut_bytes _ _ _ hs).mono ?_; rintro e w' ⟨rfl, rfl⟩)
  go_ret
  exact ⟨rfl, rfl⟩
theorem cut_past (s : ByteArray) (i : Int) (w : World) (hs : s.size ≤ 1048576) (hi : 0 ≤ i) (h2 : (s.size : Int) < i) :
    Calls Try.prog 3 #[.string s, .int .i64 i] w fun e w' => e = .returned (.bool true) ∧ w = w' := by
  have g1 : decide (i < 0) = false := decide_eq_false (by omega)
  have g2 : decide ((s.size : Int) < i) = true := decide_eq_true h2
  go_enter Try.func3, Try.ntmps3
  go_wp2_with (go_at_call 5; refine (cut_bytes _ _ _ hs).mono ?_; rintro e w' ⟨rfl, rfl⟩)
  go_ret
  exact ⟨rfl, rfl⟩

theorem zsize (n : Nat) : (⟨(List.replicate n (48 : UInt8)).toArray⟩ : ByteArray).size = n := by
  show (List.replicate n (48 : UInt8)).toArray.size = n
  simp
theorem cut_eq (s : ByteArray) (k : Nat) (h40 : s.size = 40) (hk : k ≤ s.size) :
    isId s = (isId (s.extract 0 k ++ ⟨(List.replicate (40 - k) (48 : UInt8)).toArray⟩) && isId (⟨(List.replicate k (48 : UInt8)).toArray⟩ ++ s.extract k s.size)) := by
  have h1 : (s.extract 0 k).size = k := by rw [ByteArray.size_extract]; omega
  have h2 : (s.extract k s.size).size = 40 - k := by rw [ByteArray.size_extract]; omega
  have h3 := isId_cut (s.extract 0 k) (s.extract k s.size) (40 - k) k (by omega) (by omega) (by omega)
  have h4 : s.extract 0 k ++ s.extract k s.size = s := by
    rw [ByteArray.extract_append_extract]
    have e1 : min 0 k = 0 := by omega
    have e2 : max k s.size = s.size := by omega
    rw [e1, e2, ByteArray.extract_zero_size]
  rw [h4] at h3
  exact h3

theorem hex_is (s : ByteArray) (w : World) :
    Calls Try.prog 8 #[.string s] w fun e w' => ∃ t : ByteArray, e = .returned (.string t) ∧ (40 ≤ t.size ∧ t.size ≤ 40) ∧ Hid (isId t = true) ∧ Hid (isId (t ++ ⟨#[48]⟩) = false) ∧ Hid (isId (t.extract 0 39) = false) ∧ Below w.heap.size w w' := by
  refine (hex_any s w).mono ?_
  rintro e w' ⟨l, rfl, hl, ha, hb⟩
  have hsz : (⟨l.toArray⟩ : ByteArray).size = 40 := by show l.toArray.size = 40; simpa using hl
  refine ⟨⟨l.toArray⟩, rfl, ⟨by omega, by omega⟩, ?_, ?_, ?_, hb⟩
  · show isId _ = true
    simp [isId, idL, hl]
    simpa using ha
  · show isId _ = false
    refine isId_no _ ?_
    rw [ByteArray.size_append, hsz]
    decide
  · show isId _ = false
    refine isId_no _ ?_
    rw [ByteArray.size_extract, hsz]
    decide

set_option maxRecDepth 100000 in
set_option maxHeartbeats 1000000 in
theorem cut_main (s : ByteArray) (k : Nat) (w : World) (hs : s.size ≤ 1048576) (hk : k ≤ s.size) :
    Calls Try.prog 3 #[.string s, .int .i64 k] w fun e w' => e = .returned (.bool true) ∧ Below w.heap.size w w' := by
  have g1 : decide ((k : Int) < 0) = false := decide_eq_false (by omega)
  have g2 : decide ((s.size : Int) < (k : Int)) = false := decide_eq_false (by omega)
  obtain ⟨got, hgot⟩ : ∃ b, isId s = b := ⟨_, rfl⟩
  have HG : Hid (isId s = got) := hgot
  clear hgot
  by_cases h40 : s.size = 40
  · have e40 : ((s.size : Int) == 40) = true := by simp; omega
    have HS : Hid (s.size = 40) := h40
    clear h40
    go_enter Try.func3, Try.ntmps3
    go_wp2_with (go_at_call 5; refine (cut_bytes _ _ _ hs).mono ?_; rintro e w' ⟨rfl, rfl⟩)
    refine (id_iss _ _ HG _).mono ?_
    rintro e w1 ⟨rfl, b1⟩
    have B1 : Hid (Below w.heap.size w w1) := b1
    clear b1
    obtain ⟨z1, hz1⟩ : ∃ t : ByteArray, ⟨(List.replicate (40 - k) (48 : UInt8)).toArray⟩ = t := ⟨_, rfl⟩
    obtain ⟨z2, hz2⟩ : ∃ t : ByteArray, ⟨(List.replicate k (48 : UInt8)).toArray⟩ = t := ⟨_, rfl⟩
    have HZ1 : Hid (⟨(List.replicate (40 - k) (48 : UInt8)).toArray⟩ = z1) := hz1
    have HZ2 : Hid (⟨(List.replicate k (48 : UInt8)).toArray⟩ = z2) := hz2
    have hk40 : k ≤ 40 := by have := HS.out; omega
    have s1 : z1.size ≤ 40 := by rw [← hz1, zsize]; omega
    have s2 : z2.size ≤ 40 := by rw [← hz2, zsize]; exact hk40
    obtain ⟨lb, hlb⟩ : ∃ b, isId (s.extract 0 k ++ z1) = b := ⟨_, rfl⟩
    obtain ⟨rb, hrb⟩ : ∃ b, isId (z2 ++ s.extract k s.size) = b := ⟨_, rfl⟩
    have hgl : got = (lb && rb) := by
      have h3 := cut_eq s k HS.out hk
      rw [hz1, hz2, hlb, hrb] at h3
      rw [← HG.out, h3]
    have HLB : Hid (isId (s.extract 0 k ++ z1) = lb) := hlb
    have HRB : Hid (isId (z2 ++ s.extract k s.size) = rb) := hrb
    clear hlb hrb hz1 hz2
    subst hgl
    clear HG
    go_wp2_with fail
    refine (zeros_is _ (40 - k) z1 (by omega) (by omega) HZ1 _).mono ?_
    rintro e w2 ⟨rfl, b2⟩
    have B2 : Hid (Below w.heap.size w w2) := B1.out.trans (b2.mono B1.out.size)
    clear B1 b2
    go_wp2_with fail
    refine (id_iss _ _ HLB _).mono ?_
    rintro e w3 ⟨rfl, b3⟩
    have B3 : Hid (Below w.heap.size w w3) := B2.out.trans (b3.mono B2.out.size)
    clear B2 b3
    go_wp2_with fail
    refine (zeros_is _ k z2 (by have := HS.out; omega) hk40 HZ2 _).mono ?_
    rintro e w4 ⟨rfl, b4⟩
    have B4 : Hid (Below w.heap.size w w4) := B3.out.trans (b4.mono B3.out.size)
    clear B3 b4
    go_wp2_with fail
    refine (id_iss _ _ HRB _).mono ?_
    rintro e w5 ⟨rfl, b5⟩
    have B5 : Hid (Below w.heap.size w w5) := B4.out.trans (b5.mono B4.out.size)
    clear B4 b5 HLB HRB HZ1 HZ2
    cases lb with
    | true =>
      cases rb with
      | true =>
        go_wp2_with fail
        refine (hex_is s _).mono ?_
        rintro e w6 ⟨en, rfl, ⟨en1, en2⟩, E1, E2, E3, b6⟩
        have B6 : Hid (Below w.heap.size w w6) := B5.out.trans (b6.mono B5.out.size)
        clear B5 b6
        go_wp2_with fail
        refine (id_iss _ _ E1 _).mono ?_
        rintro e w7 ⟨rfl, b7⟩
        have B7 : Hid (Below w.heap.size w w7) := B6.out.trans (b7.mono B6.out.size)
        clear B6 b7
        go_wp2_with fail
        refine (id_iss _ _ E2 _).mono ?_
        rintro e w8 ⟨rfl, b8⟩
        have B8 : Hid (Below w.heap.size w w8) := B7.out.trans (b8.mono B7.out.size)
        clear B7 b8
        go_wp2_with fail
        refine (id_iss _ _ E3 _).mono ?_
        rintro e w9 ⟨rfl, b9⟩
        have B9 : Hid (Below w.heap.size w w9) := B8.out.trans (b9.mono B8.out.size)
        clear B8 b9
        go_wp2
        go_ret
        exact ⟨rfl, B9.out⟩
      | false =>
        go_wp2_with fail
        refine (hex_is s _).mono ?_
        rintro e w6 ⟨en, rfl, ⟨en1, en2⟩, E1, E2, E3, b6⟩
        have B6 : Hid (Below w.heap.size w w6) := B5.out.trans (b6.mono B5.out.size)
        clear B5 b6
        go_wp2_with fail
        refine (id_iss _ _ E1 _).mono ?_
        rintro e w7 ⟨rfl, b7⟩
        have B7 : Hid (Below w.heap.size w w7) := B6.out.trans (b7.mono B6.out.size)
        clear B6 b7
        go_wp2_with fail
        refine (id_iss _ _ E2 _).mono ?_
        rintro e w8 ⟨rfl, b8⟩
        have B8 : Hid (Below w.heap.size w w8) := B7.out.trans (b8.mono B7.out.size)
        clear B7 b8
        go_wp2_with fail
        refine (id_iss _ _ E3 _).mono ?_
        rintro e w9 ⟨rfl, b9⟩
        have B9 : Hid (Below w.heap.size w w9) := B8.out.trans (b9.mono B8.out.size)
        clear B8 b9
        go_wp2
        go_ret
        exact ⟨rfl, B9.out⟩
    | false =>
      go_wp2_with fail
      refine (hex_is s _).mono ?_
      rintro e w6 ⟨en, rfl, ⟨en1, en2⟩, E1, E2, E3, b6⟩
      have B6 : Hid (Below w.heap.size w w6) := B5.out.trans (b6.mono B5.out.size)
      clear B5 b6
      go_wp2_with fail
      refine (id_iss _ _ E1 _).mono ?_
      rintro e w7 ⟨rfl, b7⟩
      have B7 : Hid (Below w.heap.size w w7) := B6.out.trans (b7.mono B6.out.size)
      clear B6 b7
      go_wp2_with fail
      refine (id_iss _ _ E2 _).mono ?_
      rintro e w8 ⟨rfl, b8⟩
      have B8 : Hid (Below w.heap.size w w8) := B7.out.trans (b8.mono B7.out.size)
      clear B7 b8
      go_wp2_with fail
      refine (id_iss _ _ E3 _).mono ?_
      rintro e w9 ⟨rfl, b9⟩
      have B9 : Hid (Below w.heap.size w w9) := B8.out.trans (b9.mono B8.out.size)
      clear B8 b9
      go_wp2
      go_ret
      exact ⟨rfl, B9.out⟩
  · have e40 : ((s.size : Int) == 40) = false := by simp; omega
    obtain rfl : false = got := by rw [← HG.out, isId_no s h40]
    clear h40
    go_enter Try.func3, Try.ntmps3
    go_wp2_with (go_at_call 5; refine (cut_bytes _ _ _ hs).mono ?_; rintro e w' ⟨rfl, rfl⟩)
    refine (id_iss _ _ HG _).mono ?_
    rintro e w5 ⟨rfl, b5⟩
    have B5 : Hid (Below w.heap.size w w5) := b5
    clear b5
    go_wp2_with fail
    refine (hex_is s _).mono ?_
    rintro e w6 ⟨en, rfl, ⟨en1, en2⟩, E1, E2, E3, b6⟩
    have B6 : Hid (Below w.heap.size w w6) := B5.out.trans (b6.mono B5.out.size)
    clear B5 b6
    go_wp2_with fail
    refine (id_iss _ _ E1 _).mono ?_
    rintro e w7 ⟨rfl, b7⟩
    have B7 : Hid (Below w.heap.size w w7) := B6.out.trans (b7.mono B6.out.size)
    clear B6 b7
    go_wp2_with fail
    refine (id_iss _ _ E2 _).mono ?_
    rintro e w8 ⟨rfl, b8⟩
    have B8 : Hid (Below w.heap.size w w8) := B7.out.trans (b8.mono B7.out.size)
    clear B7 b8
    go_wp2_with fail
    refine (id_iss _ _ E3 _).mono ?_
    rintro e w9 ⟨rfl, b9⟩
    have B9 : Hid (Below w.heap.size w w9) := B8.out.trans (b9.mono B8.out.size)
    clear B8 b9
    go_wp2
    go_ret
    exact ⟨rfl, B9.out⟩
end Go.Proofs.Qxb6627745a
