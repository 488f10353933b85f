import Derived.Test.Qxb6627692aClone
namespace Go.Proofs.Qxb6627692a
open Go.RowKit

theorem add_none (b off j : Nat) : (⟨b, off, none⟩ : Addr).add j = ⟨b, off + j, none⟩ := by
  unfold Addr.add
  split <;> simp_all

set_option maxHeartbeats 400000 in
/-- bytes.Clone of a slice that is not nil -/
theorem bclone_some (a : Addr) (n c : Nat) (xs : List Int) (w : World) (hn : n ≤ 1048576) (h : At w (some a) n xs) :
    Calls Try.prog 10 #[.slice (some a) n c] w fun e w' => ∃ g cap, e = .returned (.slice (some ⟨g, 0, none⟩) n cap) ∧ w.heap.size ≤ g ∧ w'.ownsRow w.heap.size 5 1 (.slice (some ⟨g, 0, none⟩) n cap) n (xs.map (Value.int .u8)) ∧ Below w.heap.size w w' := by
  have q22 : ∀ (w : World) (a : Option Addr) (n c n' c' : Nat), (binOp .eql 22 (.slice a n c) (.slice none n' c')).run Try.prog w = .ok (.bool a.isNone) w := fun w a n c n' c' => Lib.run_eql_slice_nil w _ _ a n c n' c' Try.underlying22
  obtain ⟨i0, hi, hz0, hz1, hz2⟩ := info_parts Try.info5
  have HA : Hid (At w (some a) n xs) := h
  clear h
  go_enter Try.func10, Try.ntmps10
  go_wp2_with (at_builtin; refine wpList_append_own _ rfl _ _ 22 rfl w.heap.size 5 i0 (.int .u8 0) 1 1 Try.underlying22 hi hz0 hz1 hz2 rfl (by decide) _ _ _ rfl (World.ownsRow_made w #[] 0 (Nat.le_refl _) (Nat.zero_le _) rfl) a n c (xs.map (Value.int .u8)) rfl ?qc1 ?qc2 ?qc3 ?qc4 ?qc5 ?qc6 ?_)
  case qc1 => have := HA.out.1; simp; omega
  case qc2 =>
    intro j u hj
    have hl := HA.out.1
    have hjn : j < n := by
      have := (List.getElem?_eq_some_iff.1 hj).1
      simp at this
      omega
    obtain ⟨b, off, ha, hc⟩ := (HA.out.alloc (.cells #[] 5)).2 j hjn
    simp at ha
    subst ha
    have e : (xs.map (Value.int .u8))[j]? = some (Value.int .u8 (xs.getD j 0)) := by simp [List.getD, List.getElem?_eq_getElem (show j < xs.length by omega)]
    rw [e] at hj
    rw [← hj]
    rw [add_none]
    exact hc
  case qc3 => exact ints_oneCell _ _
  case qc4 => unfold maxLen; omega
  case qc5 => omega
  case qc6 => simp
  intro v' w1 hown hgrow hnil
  have hnn : v' ≠ .slice none 0 0 := by
    first | exact hnil | (intro e; exact absurd (hnil.1 e).1 (by simp))
  have hown' : w1.ownsRow w.heap.size 5 1 v' n (xs.map (Value.int .u8)) := by simpa using hown
  have hex : ∃ g cap, v' = .slice (some ⟨g, 0, none⟩) n cap ∧ w.heap.size ≤ g := by
    rcases hown'.2 with ⟨e, _⟩ | ⟨g, cap, cur, e, hg, _⟩
    · exact absurd e hnn
    · exact ⟨g, cap, e, hg⟩
  have hb : Below w.heap.size w w1 := ((Below.refl _ w).alloc (Nat.le_refl _) _).grown hgrow (by simp) (by intro k hk; simp [Value.ownBlock] at hk; omega)
  clear hown hgrow hnil
  obtain ⟨g, cap, hv, hg⟩ := hex
  rw [hv] at hown' ⊢
  clear hnn
  go_wp2
  go_ret
  exact ⟨g, cap, rfl, hg, hown', hb⟩

set_option maxHeartbeats 400000 in
theorem bclone_nil (n c : Nat) (w : World) :
    Calls Try.prog 10 #[.slice none n c] w fun e w' => e = .returned (.slice none 0 0) ∧ w' = w := by
  have q22 : ∀ (w : World) (a : Option Addr) (n c n' c' : Nat), (binOp .eql 22 (.slice a n c) (.slice none n' c')).run Try.prog w = .ok (.bool a.isNone) w := fun w a n c n' c' => Lib.run_eql_slice_nil w _ _ a n c n' c' Try.underlying22
  go_enter Try.func10, Try.ntmps10
  go_wp2
  go_ret
  exact ⟨rfl, rfl⟩

set_option maxHeartbeats 400000 in
theorem prefix_nil (a : Option Addr) (c : Nat) (w : World) :
    Calls Try.prog 6 #[.slice a 0 c] w fun e w' => ∃ a' d, e = .returned (.agg #[.slice a 0 c, .slice a' 0 d]) ∧ Below w.heap.size w w' := by
  cases a with
  | none =>
    have hcon := fun w => bclone_nil 0 c w
    go_enter Try.func6, Try.ntmps6
    go_wp2_with (go_at_call 10; refine (hcon _).mono ?_; rintro e w' ⟨rfl, hw⟩; subst hw)
    refine wp_loop_rounds 1 ?_
    rw [rounds_succ]
    go_wp2
    exact bodyPost_ret (v := .agg #[.slice none 0 c, .slice none 0 0]) (by simp [results, Try.results6, go_sem]) rfl ⟨none, 0, rfl, (Below.refl _ _).alloc (Nat.le_refl _) _⟩
  | some a =>
    have hcon := fun w => bclone_some a 0 c [] w (by omega) (At.empty w _)
    go_enter Try.func6, Try.ntmps6
    go_wp2_with (go_at_call 10; refine (hcon _).mono ?_; rintro e w' ⟨g, cap, rfl, hg, hown, hb⟩)
    have h0 := hb.cell (p := ⟨w.heap.size, 0, none⟩) (by simp)
    have h1 := hb.cell (p := ⟨w.heap.size, 1, none⟩) (by simp)
    have f0 := hb.frozen (p := ⟨w.heap.size, 0, none⟩) (by simp)
    have f1 := hb.frozen (p := ⟨w.heap.size, 1, none⟩) (by simp)
    have hz : w.heap.size < w'.heap.size := by have := hb.size; simp at this; omega
    simp at h0 h1 f0 f1
    have HB : Hid (Below w.heap.size w w') := ((Below.refl _ w).alloc (Nat.le_refl _) _).trans (hb.mono (by simp))
    clear hb hown hg hcon
    refine wp_loop_rounds 1 ?_
    rw [rounds_succ]
    go_wp2
    exact bodyPost_ret (v := .agg #[.slice (some a) 0 c, .slice (some ⟨g, 0, none⟩) 0 cap]) (by simp [results, Try.results6, go_sem, h0, h1]) rfl ⟨_, _, rfl, (HB.out.setCell (Nat.le_refl _) _).setCell (Nat.le_refl _) _⟩

/-- where the stripping stops -/
def Cut (xs : List Int) (n k : Nat) : Prop := k ≤ n ∧ (∀ j, k ≤ j → j < n → xs.getD j 0 = 255) ∧ (0 < k → xs.getD (k - 1) 0 ≠ 255)

theorem end_len (xs : List Int) (j : Nat) (h : j < xs.length) : (endL xs (j + 1)).length = j + 1 := by simp [endL]; omega
theorem end_get (xs : List Int) (j i : Nat) (h : j < xs.length) (hi : i < j) : (endL xs (j + 1)).getD i 0 = xs.getD i 0 := by
  have : i < min j xs.length := by omega
  have h2 : i < xs.length := by omega
  simp [endL, List.getD, List.getElem?_append, this, h2]
theorem end_last (xs : List Int) (j : Nat) (h : j < xs.length) : (endL xs (j + 1)).getD j 0 = xs.getD j 0 + 1 := by
  have : min j xs.length = j := by omega
  simp [endL, List.getD, this]

theorem cell_apart (w : World) (g B i j : Nat) (u : Value) (h : g ≠ B ∨ i ≠ j) : (w.setCell ⟨B, j, none⟩ u).cell? ⟨g, i, none⟩ = w.cell? ⟨g, i, none⟩ :=
  World.cell?_setCell_other _ _ _ _ (by intro e; injection e; omega)

theorem at_end {w1 : World} {g n j B : Nat} {xs : List Int} {u v : Value} (hl : xs.length = n) (hc : ∀ i, i < n → w1.cell? ⟨g, i, none⟩ = some (.int .u8 (xs.getD i 0))) (hj : j < n) (hg : B < g) :
    At (((w1.setCell ⟨g, j, none⟩ (.int .u8 (xs.getD j 0 + 1))).setCell ⟨B, 0, none⟩ u).setCell ⟨B, 1, none⟩ v) (some ⟨g, 0, none⟩) (j + 1) (endL xs (j + 1)) := by
  refine ⟨end_len xs j (by omega), fun i hi => ⟨g, 0, rfl, ?_⟩⟩
  rw [Nat.zero_add, cell_apart _ g B i 1 _ (by omega), cell_apart _ g B i 0 _ (by omega)]
  rcases Nat.lt_or_ge i j with h | h
  · rw [cell_apart _ g g i j _ (by omega), hc i (by omega), end_get xs j i (by omega) h]
  · obtain rfl : i = j := by omega
    rw [World.cell?_setCell_same _ _ _ (hc i hj), end_last xs i (by omega)]

/-- what a call of Prefix leaves -/
def PrePost (a : Option Addr) (n c : Nat) (xs : List Int) (w : World) (e : Ending) (w' : World) : Prop :=
  ∃ a' k d, e = .returned (.agg #[.slice a n c, .slice a' k d]) ∧ Cut xs n k ∧ At w' a' k (endL xs k) ∧ Below w.heap.size w w'

set_option maxHeartbeats 800000 in
theorem prefix_pos (a : Addr) (n c : Nat) (xs : List Int) (w : World) (hn : n ≤ 1048576) (_h0 : 0 < n) (h : At w (some a) n xs) (hx : ∀ j, 0 ≤ xs.getD j 0 ∧ xs.getD j 0 ≤ 255) :
    Calls Try.prog 6 #[.slice (some a) n c] w fun e w' => PrePost (some a) n c xs w e w' := by
  have hcon := bclone_some a n c xs (w.alloc (.cells #[.slice none 0 0, .slice none 0 0] 26)) hn (h.alloc _)
  have hl := h.1
  clear h
  go_enter Try.func6, Try.ntmps6
  go_wp2_with (go_at_call 10; refine hcon.mono ?_; rintro e w1 ⟨g, cap, rfl, hg, hown, hb⟩)
  have c0 := hb.cell (p := ⟨w.heap.size, 0, none⟩) (by simp)
  have c1 := hb.cell (p := ⟨w.heap.size, 1, none⟩) (by simp)
  have f0 := hb.frozen (p := ⟨w.heap.size, 0, none⟩) (by simp)
  have f1 := hb.frozen (p := ⟨w.heap.size, 1, none⟩) (by simp)
  have hz : w.heap.size < w1.heap.size := by have := hb.size; simp at this; omega
  have hgw : w.heap.size < g := by simp at hg; omega
  simp at c0 c1 f0 f1
  have HB : Hid (Below w.heap.size w w1) := ((Below.refl _ w).alloc (Nat.le_refl _) _).trans (hb.mono (by simp))
  have HO : Hid (w1.ownsRow _ 5 1 (.slice (some ⟨g, 0, none⟩) n cap) n (xs.map (Value.int .u8))) := hown
  have hcell : ∀ j, j < n → w1.cell? ⟨g, j, none⟩ = some (.int .u8 (xs.getD j 0)) := fun j hj => by
    rw [hown.cellAt j (by omega)]
    simp [List.getD, List.getElem?_eq_getElem (show j < xs.length by omega)]
  have hfz : ∀ j, w1.frozen? ⟨g, j, none⟩ = false := fun j => hown.frozenAt j
  have hcap : n ≤ cap ∧ cap ≤ 9223372036854775807 := by
    rcases hown.2 with ⟨e, _⟩ | ⟨g', cap', cur, e, _, _, h1, h2, _⟩
    · simp at e
    · simp at e
      obtain ⟨rfl, rfl⟩ := e
      exact ⟨h1, h2⟩
  obtain ⟨hcap1, hcap2⟩ := hcap
  clear hb hown hg hcon
  have HC : Hid (∀ j, j < n → w1.cell? ⟨g, j, none⟩ = some (.int .u8 (xs.getD j 0))) := hcell
  have HF : Hid (∀ j, w1.frozen? ⟨g, j, none⟩ = false) := hfz
  have HX : Hid (∀ j, 0 ≤ xs.getD j 0 ∧ xs.getD j 0 ≤ 255) := hx
  clear hcell hfz hx
  go_loop [3] (fun v => ∃ k : Nat, v = .slice (some ⟨g, 0, none⟩) k cap ∧ k ≤ n ∧ ∀ j, k ≤ j → j < n → xs.getD j 0 = 255) (fun v => match v with | .slice _ k _ => k | _ => 0)
  case atStart => exact ⟨n, rfl, Nat.le_refl _, fun j h1 h2 => by omega⟩
  case round =>
    obtain ⟨k, rfl, hk, hj⟩ := hrel
    have HJ : Hid (∀ j, k ≤ j → j < n → xs.getD j 0 = 255) := hj
    clear hj
    cases k with
    | zero =>
      go_wp2
      refine bodyPost_ret (v := .agg #[.slice (some a) n c, .slice (some ⟨g, 0, none⟩) 0 cap]) (by simp [results, Try.results6, go_sem, c0, c1]) rfl ⟨_, 0, _, rfl, ⟨Nat.zero_le _, HJ.out, by omega⟩, At.empty _ _, (HB.out.setCell (Nat.le_refl _) _).setCell (Nat.le_refl _) _⟩
    | succ j =>
      obtain ⟨x, hxj⟩ : ∃ x, x = xs.getD j 0 := ⟨_, rfl⟩
      have h1 : w1.cell? ⟨g, j, none⟩ = some (.int .u8 x) := by rw [hxj]; exact HC.out j (by omega)
      have h2 : w1.frozen? ⟨g, j, none⟩ = false := HF.out j
      have hx1 : 0 ≤ x := by rw [hxj]; exact (HX.out j).1
      have hx2 : x ≤ 255 := by rw [hxj]; exact (HX.out j).2
      have HXJ : Hid (x = xs.getD j 0) := hxj
      clear hxj
      by_cases hff : x = 255
      · have hq : (x == 255) = true := by simpa using hff
        have HJ' : Hid (∀ i, j ≤ i → i < n → xs.getD i 0 = 255) := fun i h3 h4 => by
          rcases Nat.lt_or_ge i (j + 1) with h5 | h5
          · obtain rfl : i = j := by omega
            rw [← HXJ.out, hff]
          · exact HJ.out i h5 h4
        clear hff
        go_wp2
        go_round
        case rel => exact ⟨j, rfl, by omega, HJ'.out⟩
        case measure => simp
      · have hq : (x == 255) = false := by simpa using hff
        have hx3 : x ≤ 254 := by omega
        have HN : Hid (x ≠ 255) := hff
        clear hff
        go_wp2
        have HAE := at_end (u := .slice (some a) n c) (v := .slice (some ⟨g, 0, none⟩) (j + 1) cap) (B := w.heap.size) (g := g) (xs := xs) hl HC.out (j := j) (by omega) hgw
        rw [← HXJ.out] at HAE
        refine bodyPost_ret (v := .agg #[.slice (some a) n c, .slice (some ⟨g, 0, none⟩) (j + 1) cap]) (by simp [results, Try.results6, go_sem, c0, c1]) rfl ⟨_, j + 1, _, rfl, ⟨by omega, HJ.out, fun _ => ?_⟩, HAE, ((HB.out.setCell (p := ⟨g, j, none⟩) (by show w.heap.size ≤ g; omega) _).setCell (Nat.le_refl _) _).setCell (Nat.le_refl _) _⟩
        rw [Nat.add_sub_cancel, ← HXJ.out]
        exact HN.out
end Go.Proofs.Qxb6627692a
