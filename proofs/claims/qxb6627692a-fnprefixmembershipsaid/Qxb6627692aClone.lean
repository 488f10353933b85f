import Derived.Test.Qxb6627692aWalks
import Derived.Lib.SliceRun
import Derived.Laws.AppendOwn
import Derived.OwnWalk
namespace Go.Proofs.Qxb6627692a
open Go.RowKit

theorem Try.info5 : (Try.prog.info? 5).map (fun i => (i.zero, i.size, i.bytes)) = some (some (.int .u8 0), 1, 1) := by kernel_rfl

theorem lt_cell {w : World} {a : Addr} {v : Value} (h : w.cell? a = some v) : a.block < w.heap.size := by
  rcases Nat.lt_or_ge a.block w.heap.size with hl | hl
  · exact hl
  · have hn : w.heap[a.block]? = none := Array.getElem?_eq_none hl
    simp [World.cell?, hn] at h

theorem At.below {w w' : World} {a : Option Addr} {n : Nat} {xs : List Int} {B : Nat} (h : At w a n xs) (hb : Below B w w') (hB : B = w.heap.size) : At w' a n xs := by
  subst hB
  refine ⟨h.1, fun i hi => ?_⟩
  obtain ⟨b, off, ha, hc⟩ := h.2 i hi
  refine ⟨b, off, ha, ?_⟩
  have hlt := lt_cell hc
  rw [hb.cell hlt]
  exact hc
theorem At.drewN {w : World} {a : Option Addr} {n : Nat} {xs : List Int} (h : At w a n xs) (q : Nat) : At (w.drewN q) a n xs := h
theorem At.alloc {w : World} {a : Option Addr} {n : Nat} {xs : List Int} (h : At w a n xs) (o : Obj) : At (w.alloc o) a n xs :=
  h.below ((Below.refl _ w).alloc (Nat.le_refl _) o) rfl
theorem At.nil {w : World} {n : Nat} {xs : List Int} (h : At w none n xs) : n = 0 := by
  rcases Nat.eq_zero_or_pos n with h0 | h0
  · exact h0
  · obtain ⟨b, off, ha, _⟩ := h.2 0 h0
    simp at ha

theorem At.empty (w : World) (a : Option Addr) : At w a 0 [] := ⟨rfl, fun i hi => by omega⟩

/-- the cells after 'k' of 'n' bytes are copied -/
def cop (xs : List Int) (n k : Nat) : List Value := (xs.take k ++ List.replicate (n - k) 0).map (Value.int .u8)
theorem cop_zero (xs : List Int) (n : Nat) : cop xs n 0 = List.replicate n (Value.int .u8 0) := by simp [cop]
theorem cop_step (xs : List Int) (n k : Nat) (hl : xs.length = n) (h : k < n) : (cop xs n k).set k (.int .u8 (xs.getD k 0)) = cop xs n (k + 1) := by
  unfold cop
  rw [show n - k = (n - (k + 1)) + 1 by omega, List.replicate_succ]
  have e : xs.getD k 0 = xs[k] := by simp [List.getD, List.getElem?_eq_getElem (show k < xs.length by omega)]
  rw [e, ← List.map_set]
  congr 1
  rw [List.set_append_right _ _ (by simp; omega)]
  have : k - (List.take k xs).length = 0 := by simp; omega
  rw [this, List.take_succ_eq_append_getElem (by omega), List.append_assoc]
  rfl
theorem cop_end (xs : List Int) (n : Nat) (hl : xs.length = n) : cop xs n n = xs.map (Value.int .u8) := by
  subst hl; simp [cop]

theorem at_owns {w : World} {B g n cap : Nat} {xs : List Int} (hl : xs.length = n) (h : w.ownsRow B 5 1 (.slice (some ⟨g, 0, none⟩) n cap) n (xs.map (Value.int .u8))) : At w (some ⟨g, 0, none⟩) n xs := by
  refine ⟨hl, fun i hi => ⟨g, 0, rfl, ?_⟩⟩
  rw [Nat.zero_add, h.cellAt i (by omega)]
  simp [List.getD, List.getElem?_eq_getElem (show i < xs.length by omega)]

set_option maxHeartbeats 400000 in
theorem clone_any (a : Option Addr) (n c : Nat) (xs : List Int) (w : World) (hn : n ≤ 1048576) (h : At w a n xs) :
    Calls Try.prog 5 #[.slice a n c] w fun e w' => ∃ a', e = .returned (.slice a' n n) ∧ At w' a' n xs ∧ Below w.heap.size w w' := by
  have q22 : ∀ (w : World) (a : Option Addr) (n c n' c' : Nat), (binOp .eql 22 (.slice a n c) (.slice none n' c')).run Try.prog w = .ok (.bool a.isNone) w := fun w a n c n' c' => Lib.run_eql_slice_nil w _ _ a n c n' c' Try.underlying22
  cases a with
  | none =>
    have h0 := h.nil
    subst h0
    go_enter Try.func5, Try.ntmps5
    go_wp2
    go_ret
    exact ⟨none, rfl, h, Below.refl _ _⟩
  | some a =>
    obtain ⟨i0, hi, hz0, hz1, hz2⟩ := info_parts Try.info5
    have hl := h.1
    rcases Nat.eq_zero_or_pos n with h0 | h0
    · subst h0
      go_enter Try.func5, Try.ntmps5
      go_wp2_with (at_make; refine wpList_make_full _ rfl _ _ 22 rfl w.heap.size 5 i0 (.int .u8 0) 1 Try.underlying22 hi hz0 hz1 .i64 .i64 _ _ 0 rfl rfl rfl rfl (by rw [hz2]; omega) (by unfold maxLen; omega) (Nat.le_refl _) ?_; intro w1 hown hgrow)
      refine wp_loop_rounds 1 ?_
      rw [rounds_succ]
      go_wp2
      go_ret
      obtain rfl : xs = [] := List.length_eq_zero_iff.1 hl
      exact ⟨_, rfl, At.empty _ _, (Below.refl _ _).grown hgrow (Nat.le_refl _) (by simp)⟩
    · obtain ⟨b, off, ha, hc⟩ := h.spot h0
      simp at ha
      subst ha
      clear h
      go_enter Try.func5, Try.ntmps5
      go_wp2_with (at_make; refine wpList_make_full _ rfl _ _ 22 rfl w.heap.size 5 i0 (.int .u8 0) 1 Try.underlying22 hi hz0 hz1 .i64 .i64 _ _ n rfl rfl rfl rfl (by rw [hz2]; omega) (by unfold maxLen; omega) (Nat.le_refl _) ?_; intro w1 hown hgrow)
      have hown1 : w1.ownsRow w.heap.size 5 1 (.slice (some ⟨w.heap.size, 0, none⟩) n n) n (cop xs n 0) := by
        rw [cop_zero, ← toList_madeCells_one]
        simpa [Value.cells] using hown
      have hb1 : Below w.heap.size w w1 := (Below.refl _ _).grown hgrow (Nat.le_refl _) (by simp)
      clear hown hgrow
      go_loopw [4] (fun i wr => ∃ k : Nat, k ≤ n ∧ i = .int .i64 k ∧ wr.ownsRow w.heap.size 5 1 (.slice (some ⟨w.heap.size, 0, none⟩) n n) n (cop xs n k) ∧ Below w.heap.size w wr) (fun i _ => n - (intOf i).toNat)
      case atStart => exact ⟨0, Nat.zero_le _, rfl, hown1, hb1⟩
      case round =>
        obtain ⟨k, hk, rfl, hown, hb⟩ := hrel
        clear hown1 hb1
        by_cases hlt : k < n
        · obtain ⟨x, hx⟩ : ∃ x, x = xs.getD k 0 := ⟨_, rfl⟩
          have h1 : wr.cell? ⟨b, off + k, none⟩ = some (.int .u8 (xs.getD k 0)) := (hb.cell (by exact lt_cell (hc k hlt))).trans (hc k hlt)
          have hst := hown.stored k (.int .u8 (xs.getD k 0))
          have HO : Hid ((wr.setCell ⟨w.heap.size, k, none⟩ (.int .u8 (xs.getD k 0))).ownsRow w.heap.size 5 1 (.slice (some ⟨w.heap.size, 0, none⟩) n n) n (cop xs n (k + 1))) := by
            rw [← cop_step xs n k hl hlt]; exact hst.1
          have HB : Hid (Below w.heap.size w (wr.setCell ⟨w.heap.size, k, none⟩ (.int .u8 (xs.getD k 0)))) := hb.setCell (Nat.le_refl _) _
          have h2 := hown.cellAt k (by omega)
          have h3 := hown.frozenAt k
          have h4 : ∃ u, wr.cell? ⟨w.heap.size, k, none⟩ = some u := by
            rw [h2]
            exact ⟨_, List.getElem?_eq_getElem (by rw [hown.1]; omega)⟩
          obtain ⟨u, h4⟩ := h4
          rw [← hx] at h1 HO HB
          clear h2 hst hown hb hc hx
          go_wp2
          go_roundw
          case rel => exact ⟨k + 1, by omega, by go_num, HO.out, HB.out⟩
          case measure => simp [intOf]; omega
        · obtain rfl : k = n := by omega
          rw [cop_end xs k hl] at hown
          go_wp2
          go_ret
          exact ⟨_, rfl, at_owns hl hown, hb⟩
end Go.Proofs.Qxb6627692a
