import Derived.Test.Qxb6627820aFmtRow
import Derived.Deep.CutRange
namespace Go.Proofs.Qxb6627820aFmt
open Go.RowKit
open Go.Extern.Stop Go.Stop Go.Extern

/-- a slice in a slot -/
def Sl (v : Value) (w : World) (n : Nat) (xs : List ByteArray) : Prop := ∃ p c, v = .slice p n c ∧ At w p n xs

set_option maxRecDepth 100000 in
set_option maxHeartbeats 1000000 in
theorem law2_main (F : Interp) (a b : Option Addr) (n m c d : Nat) (xs ys : List ByteArray) (col : ByteArray) (w : World) (hF : F.answers w.tape) (hn : n ≤ 9223372036854775807) (hm : m ≤ 9223372036854775807) (hq : col.size ≤ 9223372036854775807) (hxs : ∀ i, (st xs i).size ≤ 9223372036854775807) (hys : ∀ i, (st ys i).size ≤ 9223372036854775807) (A : At w a n xs) (B : At w b m ys) :
    Calls Tryf.prog 4 #[.slice a n c, .slice b m d, .string col] w fun e w' => e = .returned (.bool true) ∧ Below w.heap.size w w' := by
  have HF : Hid (F.answers w.tape) := hF
  have HX : Hid (∀ i, (st xs i).size ≤ 9223372036854775807) := hxs
  have HY : Hid (∀ i, (st ys i).size ≤ 9223372036854775807) := hys
  clear hF hxs hys
  go_enter Tryf.func4, Tryf.ntmps4
  go_wp2_with fail
  refine (bytes7_any a b n m c d xs ys col w hn hm hq HX.out HY.out A B).mono ?_
  rintro e w' ⟨⟨r, rfl, hr⟩, rfl⟩
  cases r with
  | false =>
    go_wp2
    go_ret
    exact ⟨rfl, Below.refl _ _⟩
  | true =>
    obtain ⟨hf1, hf2, hf3⟩ := hr rfl
    clear hr hn hm hq
    by_cases hbig : 65536 < n
    · go_wp2
      go_ret
      exact ⟨rfl, Below.refl _ _⟩
    by_cases hbig2 : 65536 < m
    · go_wp2
      go_ret
      exact ⟨rfl, Below.refl _ _⟩
    go_upto_if 36 with (fail)
    go_cut [0] from 35 to 43 (fun s0 w' => Sl s0 w' n xs ∧ Below w.heap.size w w')
    case first =>
      cases a with
      | none =>
        go_wp2
        go_meet
        case rel => exact ⟨⟨_, _, rfl, A⟩, Below.refl _ _⟩
      | some ad =>
        go_wp2_with (first
          | (at_make; refine make_strs rfl (.tmp 38) rfl (n : Int) n rfl rfl (by omega) ?_; intro w1 hg1 hb1)
          | (with_reducible refine copy_strs rfl (.tmp 40) (.tmp 41) rfl w (some ad) n c xs rfl rfl hg1 hb1 A ?_; intro w2 A2 B2; clear hg1 hb1 A))
        go_meet
        case rel => exact ⟨⟨_, _, rfl, A2⟩, B2⟩
    case rest =>
      obtain ⟨⟨a', c', rfl, A'⟩, B1⟩ := hcut
      have Bc := B.below B1 rfl
      clear A B
      go_upto_if 45 with (fail)
      go_cut [1] from 44 to 52 (fun s1 w' => Sl s1 w' m ys ∧ At w' a' n xs ∧ Below w.heap.size w w')
      case first =>
        cases b with
        | none =>
          go_wp2
          go_meet
          case rel => exact ⟨⟨_, _, rfl, Bc⟩, A', B1⟩
        | some bd =>
          go_wp2_with (first
            | (at_make; refine make_strs rfl (.tmp 47) rfl (m : Int) m rfl rfl (by omega) ?_; intro w1 hg1 hb1)
            | (with_reducible refine copy_strs rfl (.tmp 49) (.tmp 50) rfl wc (some bd) m d ys rfl rfl hg1 hb1 Bc ?_; intro w2 B2 bl2; clear hg1 hb1 Bc))
          go_meet
          case rel => exact ⟨⟨_, _, rfl, B2⟩, A'.below bl2 rfl, B1.trans (bl2.mono B1.size)⟩
      case rest =>
        obtain ⟨⟨b', d', rfl, B'⟩, A2, B2⟩ := hcut
        clear A' Bc B1
        go_wp2
        go_loop [9, 10] (fun tt i => ∃ k t : Nat, k ≤ n ∧ i = .int .i64 k ∧ tt = .int .i64 t ∧ t ≤ 1048576) (fun _ i => n - (intOf i).toNat)
        case atStart => exact ⟨0, col.size, Nat.zero_le _, rfl, by go_num, hf3⟩
        case round =>
          obtain ⟨k, t, hk, rfl, rfl, ht⟩ := hrel
          by_cases hlt : k < n
          · obtain ⟨ab, off, rfl, hc1⟩ := A2.2 k hlt
            obtain ⟨x, hx⟩ : ∃ x, x = st xs k := ⟨_, rfl⟩
            have hz := HX.out k
            rw [← hx] at hc1 hz
            clear hx hbig hbig2
            by_cases h3 : x.size ≤ 1048576
            · clear hz
              by_cases h4 : t + (16 + x.size) ≤ 1048576
              · go_wp2
                go_round
                case rel => exact ⟨k + 1, t + (16 + x.size), by omega, by go_num, by go_num, h4⟩
                case measure => simp [intOf]; omega
              · go_wp2
                go_ret
                exact ⟨rfl, B2⟩
            · go_wp2
              go_ret
              exact ⟨rfl, B2⟩
          · go_wp2
            clear hlt hk
            go_loop [9, 11] (fun tt i => ∃ k t : Nat, k ≤ m ∧ i = .int .i64 k ∧ tt = .int .i64 t ∧ t ≤ 1048576) (fun _ i => m - (intOf i).toNat)
            case atStart => exact ⟨0, t, Nat.zero_le _, rfl, rfl, ht⟩
            case round =>
              clear ht
              obtain ⟨k2, t2, hk, rfl, rfl, ht⟩ := hrel
              by_cases hlt : k2 < m
              · obtain ⟨ab, off, rfl, hc1⟩ := B'.2 k2 hlt
                obtain ⟨x, hx⟩ : ∃ x, x = st ys k2 := ⟨_, rfl⟩
                have hz := HY.out k2
                rw [← hx] at hc1 hz
                clear hx hbig hbig2
                by_cases h3 : x.size ≤ 1048576
                · clear hz
                  by_cases h4 : t2 + (16 + x.size) ≤ 1048576
                  · go_wp2
                    go_round
                    case rel => exact ⟨k2 + 1, t2 + (16 + x.size), by omega, by go_num, by go_num, h4⟩
                    case measure => simp [intOf]; omega
                  · go_wp2
                    go_ret
                    exact ⟨rfl, B2⟩
                · go_wp2
                  go_ret
                  exact ⟨rfl, B2⟩
              · have hlx := A2.1
                have hly := B'.1
                have hlz : (xs ++ ys).length = n + m := by simp [hlx, hly]
                obtain ⟨zs, hzs⟩ : ∃ zs, zs = xs ++ ys := ⟨_, rfl⟩
                rw [← hzs] at hlz
                have HZ : Hid (zs = xs ++ ys) := hzs
                clear hzs hlx hly
                obtain ⟨tot, htot⟩ : ∃ tot, tot = n + m := ⟨_, rfl⟩
                rw [← htot] at hlz
                have hnm : tot ≤ 2097152 := by omega
                have HT : Hid (tot = n + m) := htot
                clear htot hnm ht
                go_wp2_with (at_make; refine make_own rfl (.tmp 103) rfl zs _ tot rfl (by have := HT.out; omega) (by have := HT.out; omega) ?_; intro w4 O4 B4)
                have HO4 : Hid (Own w4 wc.heap.size zs tot 0) := O4
                have HB4 : Hid (Below wc.heap.size wc w4) := B4
                clear O4 B4 hk hlt
                go_loopw [13] (fun i wr => ∃ k : Nat, k ≤ n ∧ i = .int .i64 k ∧ Own wr wc.heap.size zs tot k ∧ Below wc.heap.size wc wr) (fun i _ => n - (intOf i).toNat)
                case atStart => exact ⟨0, Nat.zero_le _, rfl, HO4.out, HB4.out⟩
                case round =>
                  obtain ⟨k3, hk, rfl, O5, B5⟩ := hrel
                  by_cases hlt : k3 < n
                  · obtain ⟨ab, off, rfl, hc0⟩ := A2.2 k3 hlt
                    have hk3 : k3 < tot := by have := HT.out; omega
                    have hx0 : st zs k3 = st xs k3 := by rw [HZ.out]; exact st_left xs ys n k3 A2.1 hlt
                    obtain ⟨x, hx⟩ : ∃ x, x = st zs k3 := ⟨_, rfl⟩
                    have hc1 : wr.cell? ⟨ab, off + k3, none⟩ = some (.string x) := by rw [B5.cell (lt_cell hc0), hc0, hx, hx0]
                    obtain ⟨O6, ⟨u, hu⟩, hfz⟩ := O5.step hlz hk3
                    have B6 := B5.setCell (p := ⟨wc.heap.size, k3, none⟩) (Nat.le_refl _) (.string (st zs k3))
                    rw [← hx] at O6 B6
                    have HO6 : Hid (Own (wr.setCell ⟨wc.heap.size, k3, none⟩ (.string x)) wc.heap.size zs tot (k3 + 1)) := O6
                    have HB6 : Hid (Below wc.heap.size wc (wr.setCell ⟨wc.heap.size, k3, none⟩ (.string x))) := B6
                    clear hx hx0 O5 B5 O6 B6 hc0
                    go_wp2
                    go_roundw
                    case rel => exact ⟨k3 + 1, by omega, by go_num, HO6.out, HB6.out⟩
                    case measure => simp [intOf]; omega
                  · obtain rfl : k3 = n := by omega
                    have HO5 : Hid (Own wr wc.heap.size zs tot k3) := O5
                    have HB5 : Hid (Below wc.heap.size wc wr) := B5
                    clear O5 B5
                    go_wp2
                    go_loopw [14] (fun i wr => ∃ k : Nat, k ≤ m ∧ i = .int .i64 k ∧ Own wr wc.heap.size zs tot (k3 + k) ∧ Below wc.heap.size wc wr) (fun i _ => m - (intOf i).toNat)
                    case atStart => exact ⟨0, Nat.zero_le _, rfl, HO5.out, HB5.out⟩
                    case round =>
                      clear HO5 HB5 HO4 HB4
                      obtain ⟨j, hj, rfl, O5, B5⟩ := hrel
                      by_cases hlt2 : j < m
                      · obtain ⟨ab, off, rfl, hc0⟩ := B'.2 j hlt2
                        have hk3 : k3 + j < tot := by have := HT.out; omega
                        have hx0 : st zs (k3 + j) = st ys j := by rw [HZ.out]; exact st_right xs ys k3 j A2.1
                        obtain ⟨x, hx⟩ : ∃ x, x = st zs (k3 + j) := ⟨_, rfl⟩
                        have hc1 : wr.cell? ⟨ab, off + j, none⟩ = some (.string x) := by rw [B5.cell (lt_cell hc0), hc0, hx, hx0]
                        obtain ⟨O6, ⟨u, hu⟩, hfz⟩ := O5.step hlz hk3
                        have B6 := B5.setCell (p := ⟨wc.heap.size, k3 + j, none⟩) (Nat.le_refl _) (.string (st zs (k3 + j)))
                        rw [← hx] at O6 B6
                        have HO6 : Hid (Own (wr.setCell ⟨wc.heap.size, k3 + j, none⟩ (.string x)) wc.heap.size zs tot (k3 + j + 1)) := O6
                        have HB6 : Hid (Below wc.heap.size wc (wr.setCell ⟨wc.heap.size, k3 + j, none⟩ (.string x))) := B6
                        clear hx hx0 O5 B5 O6 B6 hc0
                        go_wp2
                        go_roundw
                        case rel => exact ⟨j + 1, by omega, by go_num, HO6.out, HB6.out⟩
                        case measure => simp [intOf]; omega
                      · obtain rfl : j = m := by omega
                        have htot : tot = k3 + j := HT.out
                        rw [← htot] at O5
                        have Z5 := O5.done hlz
                        have A5 := A2.below B5 rfl
                        have C5 := B'.below B5 rfl
                        have W5 : Below w.heap.size w wr := B2.trans (B5.mono B2.size)
                        have hF5 : F.answers wr.tape := by rw [W5.tape]; exact HF.out
                        have HF5 : Hid (F.answers wr.tape) := hF5
                        clear O5 B5 A2 B' hF5 HX HY hk htot hbig hbig2 hlt hlt2 hj
                        go_wp2_with fail
                        refine (pos_any F a' k3 c' xs col wr HF5.out (by omega) A5).mono ?_
                        rintro e w6 ⟨pa, ea, rfl, hPA, b6⟩
                        have HPA : Hid (PosIs xs col k3 pa ea) := hPA
                        have A6 := A5.below b6 rfl
                        have C6 := C5.below b6 rfl
                        have Z6 := Z5.below b6 rfl
                        have W6 : Below w.heap.size w w6 := W5.trans (b6.mono W5.size)
                        have hF6 : F.answers w6.tape := by rw [W6.tape]; exact HF.out
                        have HF6 : Hid (F.answers w6.tape) := hF6
                        clear hPA A5 C5 Z5 W5 b6 hF6 HF5
                        go_wp2_with fail
                        refine (pos_any F b' j d' ys col w6 HF6.out (by omega) C6).mono ?_
                        rintro e w7 ⟨pb, eb, rfl, hPB, b7⟩
                        have HPB : Hid (PosIs ys col j pb eb) := hPB
                        have A7 := A6.below b7 rfl
                        have C7 := C6.below b7 rfl
                        have Z7 := Z6.below b7 rfl
                        have W7 : Below w.heap.size w w7 := W6.trans (b7.mono W6.size)
                        have hF7 : F.answers w7.tape := by rw [W7.tape]; exact HF.out
                        have HF7 : Hid (F.answers w7.tape) := hF7
                        clear hPB A6 C6 Z6 W6 b7 hF7 HF6
                        have hlx := A7.1
                        have htl : tot ≤ 1048576 := by have := HT.out; omega
                        have HLX : Hid (xs.length = k3) := hlx
                        have HTL : Hid (tot ≤ 1048576) := htl
                        clear hlx htl
                        go_wp2_with fail
                        have HTWO : Hid (∀ f g, Two zs col tot f g → Calls Tryf.prog 6 #[.slice (some ⟨wc.heap.size, 0, none⟩) tot tot, .string col] w7 fun e w' => Err e ∧ Below w7.heap.size w7 w') := fun f g h => pos_two F _ tot tot zs col f g w7 HF7.out HTL.out Z7 h.1 h.2.1 h.2.2.1 h.2.2.2.1 h.2.2.2.2
                        have HONE : Hid (∀ f, One zs col tot f → Calls Tryf.prog 6 #[.slice (some ⟨wc.heap.size, 0, none⟩) tot tot, .string col] w7 fun e w' => e = .returned (.tuple #[.int .i64 (f : Int), .nilIface]) ∧ w7 = w') := fun f h => pos_one _ tot tot zs col f w7 HTL.out Z7 h.1 h.2.1 h.2.2
                        have HNO : Hid (No zs col tot → Calls Tryf.prog 6 #[.slice (some ⟨wc.heap.size, 0, none⟩) tot tot, .string col] w7 fun e w' => e = .returned (.tuple #[.int .i64 (-1), .nilIface]) ∧ w7 = w') := fun h => pos_none _ tot tot zs col w7 HTL.out Z7 h
                        clear Z7
                        rcases HPA.out with ⟨na, rfl, rfl⟩ | ⟨f, oa, rfl, rfl⟩ | ⟨f, f2, ta, rfl, T, v, rfl⟩
                        · rcases HPB.out with ⟨nb, rfl, rfl⟩ | ⟨g, ob, rfl, rfl⟩ | ⟨g, g2, tb, rfl, T, v, rfl⟩
                          · have hz : No zs col tot := by rw [HZ.out, HT.out]; exact join_no_no HLX.out na nb
                            refine (HNO.out hz).mono ?_
                            rintro e w' ⟨rfl, rfl⟩
                            clear HTWO HONE HNO HPA HPB na nb hz A7 C7
                            go_wp2
                            go_ret
                            exact ⟨rfl, W7⟩
                          · have hz : One zs col tot (k3 + g) := by rw [HZ.out, HT.out]; exact join_no_one HLX.out na ob
                            refine (HONE.out _ hz).mono ?_
                            rintro e w' ⟨rfl, rfl⟩
                            have hg : g < j := ob.1
                            obtain ⟨ab, off, rfl, hc1⟩ := C7.2 g hg
                            rw [ob.2.1] at hc1
                            have e1 : ((g : Int) == -1) = false := by simp
                            have e2 : (((k3 + g : Nat) : Int)) = (k3 : Int) + (g : Int) := by omega
                            rw [e2]
                            clear HTWO HONE HNO HPA HPB na ob hz A7 C7 e2
                            go_wp2
                            go_ret
                            exact ⟨rfl, W7⟩
                          · have hz : ∃ f g, Two zs col tot f g := by rw [HZ.out, HT.out]; exact ⟨_, _, join_no_two HLX.out na tb⟩
                            obtain ⟨f, g3, hz⟩ := hz
                            refine (HTWO.out _ _ hz).mono ?_
                            rintro e w' ⟨⟨T', v', rfl⟩, b8⟩
                            have W8 : Below w.heap.size w w' := W7.trans (b8.mono W7.size)
                            clear HTWO HONE HNO HPA HPB na tb hz A7 C7 b8
                            go_wp2
                            go_ret
                            exact ⟨rfl, W8⟩
                        · have hf : f < k3 := oa.1
                          obtain ⟨ab, off, rfl, hc0⟩ := A7.2 f hf
                          rw [oa.2.1] at hc0
                          have e0 : ((f : Int) == -1) = false := by simp
                          rcases HPB.out with ⟨nb, rfl, rfl⟩ | ⟨g, ob, rfl, rfl⟩ | ⟨g, g2, tb, rfl, T, v, rfl⟩
                          · have hz : One zs col tot f := by rw [HZ.out, HT.out]; exact join_one_no HLX.out oa nb
                            refine (HONE.out _ hz).mono ?_
                            rintro e w' ⟨rfl, rfl⟩
                            clear HTWO HONE HNO HPA HPB oa nb hz A7 C7
                            go_wp2
                            go_ret
                            exact ⟨rfl, W7⟩
                          · have hz : Two zs col tot f (k3 + g) := by rw [HZ.out, HT.out]; exact join_one_first HLX.out oa ob.1 ob.2.1 (fun i hi => ob.2.2 i (by have := ob.1; omega) (by omega))
                            refine (HTWO.out _ _ hz).mono ?_
                            rintro e w' ⟨⟨T', v', rfl⟩, b8⟩
                            have W8 : Below w.heap.size w w' := W7.trans (b8.mono W7.size)
                            have hg : g < j := ob.1
                            obtain ⟨ab2, off2, rfl, hc1⟩ := C7.2 g hg
                            rw [ob.2.1] at hc1
                            have hd0 : w'.cell? ⟨ab, off + f, none⟩ = some (.string col) := (b8.cell (lt_cell hc0)).trans hc0
                            have hd1 : w'.cell? ⟨ab2, off2 + g, none⟩ = some (.string col) := (b8.cell (lt_cell hc1)).trans hc1
                            have e1 : ((g : Int) == -1) = false := by simp
                            clear HTWO HONE HNO HPA HPB oa ob hz A7 C7 b8 hc0 hc1
                            go_wp2
                            go_ret
                            exact ⟨rfl, W8⟩
                          · have hz : Two zs col tot f (k3 + g) := by rw [HZ.out, HT.out]; exact join_one_first HLX.out oa (by have := tb.1; have := tb.2.1; omega) tb.2.2.1 (fun i hi => tb.2.2.2.2 i (by have := tb.1; omega) (by omega))
                            refine (HTWO.out _ _ hz).mono ?_
                            rintro e w' ⟨⟨T', v', rfl⟩, b8⟩
                            have W8 : Below w.heap.size w w' := W7.trans (b8.mono W7.size)
                            clear HTWO HONE HNO HPA HPB oa tb hz A7 C7 b8 hc0
                            go_wp2
                            go_ret
                            exact ⟨rfl, W8⟩
                        · have hz : Two zs col tot f f2 := by rw [HZ.out, HT.out]; exact join_two HLX.out ta
                          refine (HTWO.out _ _ hz).mono ?_
                          rintro e w' ⟨⟨T', v', rfl⟩, b8⟩
                          have W8 : Below w.heap.size w w' := W7.trans (b8.mono W7.size)
                          clear HTWO HONE HNO HPA HPB ta hz A7 C7 b8
                          go_wp2
                          go_ret
                          exact ⟨rfl, W8⟩
end Go.Proofs.Qxb6627820aFmt
