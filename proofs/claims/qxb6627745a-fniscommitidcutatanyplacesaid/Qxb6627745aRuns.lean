import Derived.Test.Qxb6627745aWalks
namespace Go.Proofs.Qxb6627745a
open Go.RowKit

theorem Try.info5 : (Try.prog.info? 5).map (fun i => (i.zero, i.size, i.bytes)) = some (some (.int .u8 0), 1, 1) := by kernel_rfl

/-- a row of 'n' bytes whose first ones are 'bs', the others zero -/
def rowV (bs : List Int) (n : Nat) : List Value := (bs ++ List.replicate (n - bs.length) 0).map (Value.int .u8)
theorem rowV_nil (n : Nat) : rowV [] n = List.replicate n (Value.int .u8 0) := by simp [rowV]
theorem rowV_step (bs : List Int) (n k : Nat) (x : Int) (hk : bs.length = k) (h : k < n) : (rowV bs n).set k (.int .u8 x) = rowV (bs ++ [x]) n := by
  subst hk
  unfold rowV
  rw [show n - bs.length = (n - (bs ++ [x]).length) + 1 by simp; omega, List.replicate_succ, ← List.map_set]
  congr 1
  rw [List.set_append_right _ _ (Nat.le_refl _), Nat.sub_self]
  simp
theorem rowV_full (bs : List Int) (n : Nat) (h : bs.length = n) : rowV bs n = bs.map (Value.int .u8) := by
  subst h; simp [rowV]
theorem rowV_get (bs : List Int) (n k : Nat) (hl : bs.length ≤ n) (h : k < n) : ∃ u, (rowV bs n)[k]? = some (.int .u8 u) := by
  unfold rowV
  rw [List.getElem?_map, List.getElem?_eq_getElem (by simp; omega)]
  exact ⟨_, rfl⟩

abbrev own (B n : Nat) (wr : World) (bs : List Int) : Prop := wr.ownsRow B 5 1 (.slice (some ⟨B, 0, none⟩) n n) n (rowV bs n)

theorem own_made {w w1 : World} {n : Nat} (h : w1.ownsRow w.heap.size 5 1 (.slice (some ⟨w.heap.size, 0, none⟩) n n) n (madeCells (Value.int .u8 0).cells (n * 1)).toList) : own w.heap.size n w1 [] := by
  unfold own
  rw [rowV_nil, ← toList_madeCells_one]
  simpa [Value.cells] using h
theorem own_store {B n k : Nat} {wr : World} {bs : List Int} (h : own B n wr bs) (hk : bs.length = k) (hn : k < n) (x : Int) : own B n (wr.setCell ⟨B, k, none⟩ (.int .u8 x)) (bs ++ [x]) := by
  unfold own
  rw [← rowV_step bs n k x hk hn]
  exact (h.stored k _).1
theorem own_cell {B n k : Nat} {wr : World} {bs : List Int} (h : own B n wr bs) (hl : bs.length ≤ n) (hn : k < n) : ∃ u, wr.cell? ⟨B, k, none⟩ = some (.int .u8 u) := by
  rw [h.cellAt k (by omega)]
  exact rowV_get bs n k hl hn
theorem own_frozen {B n : Nat} {wr : World} {bs : List Int} (h : own B n wr bs) (k : Nat) : wr.frozen? ⟨B, k, none⟩ = false := h.frozenAt k
theorem own_string {B n : Nat} {wr : World} {l : List UInt8} (h : own B n wr (l.map fun b => (b.toNat : Int))) (hl : l.length = n) :
    (convert 27 9 (.slice (some ⟨B, 0, none⟩) n n)).run Try.prog wr = .ok (.string ⟨l.toArray⟩) wr := by
  have := run_convert_bytes_back (P := Try.prog) wr 27 9 5 ⟨B, 0, none⟩ n l Try.underlying27 Try.underlying5 Try.underlying9 (fun j hj => by
    have e : (⟨B, 0, none⟩ : Addr).add j = ⟨B, j, none⟩ := by unfold Addr.add; split <;> simp_all
    rw [e]
    unfold own at h
    rw [h.cellAt j (by omega), rowV_full _ n (by simpa using hl)]
    simp [List.getElem?_eq_getElem hj])
  rw [hl] at this
  exact this

theorem byte_of (c : Int) (h0 : 0 ≤ c) (h1 : c ≤ 255) : ((UInt8.ofNat c.toNat).toNat : Int) = c := by
  rw [UInt8.toNat_ofNat']
  omega

set_option maxHeartbeats 400000 in
theorem run40 (c : Int) (w : World) (h0 : 0 ≤ c) (h1 : c ≤ 255) :
    Calls Try.prog 10 #[.int .u8 c] w fun e w' => e = .returned (.string ⟨(List.replicate 40 (UInt8.ofNat c.toNat)).toArray⟩) ∧ Below w.heap.size w w' := by
  obtain ⟨i0, hi, hz0, hz1, hz2⟩ := info_parts Try.info5
  have HB : Hid (((UInt8.ofNat c.toNat).toNat : Int) = c) := byte_of c h0 h1
  obtain ⟨out, hout⟩ : ∃ out : ByteArray, out = ⟨(List.replicate 40 (UInt8.ofNat c.toNat)).toArray⟩ := ⟨_, rfl⟩
  rw [← hout]
  have HO : Hid (out = ⟨(List.replicate 40 (UInt8.ofNat c.toNat)).toArray⟩) := hout
  clear hout
  go_enter Try.func10, Try.ntmps10
  go_wp2_with (at_make; refine wpList_make_full _ rfl _ _ 27 rfl w.heap.size 5 i0 (.int .u8 0) 1 Try.underlying27 hi hz0 hz1 .i64 .i64 _ _ 40 rfl rfl rfl rfl (by rw [hz2]; omega) (by unfold maxLen; omega) (Nat.le_refl _) ?_; intro w1 hown hgrow)
  have hown1 := own_made hown
  have hb1 : Below w.heap.size w w1 := (Below.refl _ _).grown hgrow (Nat.le_refl _) (by simp)
  clear hown hgrow
  go_loopw [4] (fun i wr => ∃ k : Nat, k ≤ 40 ∧ i = .int .i64 k ∧ own w.heap.size 40 wr (List.replicate k c) ∧ Below w.heap.size w wr) (fun i _ => 40 - (intOf i).toNat)
  case atStart => exact ⟨0, by omega, rfl, hown1, hb1⟩
  case round =>
    obtain ⟨k, hk, rfl, hown, hb⟩ := hrel
    clear hown1 hb1
    by_cases hlt : k < 40
    · obtain ⟨u, h2⟩ := own_cell hown (k := k) (by simpa using hk) hlt
      have h3 := own_frozen hown k
      have H1 : Hid (own w.heap.size 40 (wr.setCell ⟨w.heap.size, k, none⟩ (.int .u8 c)) (List.replicate k c ++ [c])) := own_store hown (k := k) (by simp) hlt c
      have H2 : Hid (Below w.heap.size w (wr.setCell ⟨w.heap.size, k, none⟩ (.int .u8 c))) := hb.setCell (Nat.le_refl _) _
      clear hown hb
      go_wp2
      go_roundw
      case rel => exact ⟨k + 1, by omega, by go_num, by rw [List.replicate_succ']; exact H1.out, H2.out⟩
      case measure => simp [intOf]; omega
    · obtain rfl : k = 40 := by omega
      have hconv := own_string (l := List.replicate 40 (UInt8.ofNat c.toNat)) (by rw [List.map_replicate, HB.out]; exact hown) (by simp)
      rw [← HO.out] at hconv
      clear hown
      go_wp2
      go_ret
      exact ⟨rfl, hb⟩

set_option maxHeartbeats 400000 in
theorem zeros_any (n : Nat) (w : World) (hn : n ≤ 40) :
    Calls Try.prog 7 #[.int .i64 n] w fun e w' => e = .returned (.string ⟨(List.replicate n (48 : UInt8)).toArray⟩) ∧ Below w.heap.size w w' := by
  rcases Nat.eq_zero_or_pos n with h0 | h0
  · subst h0
    go_enter Try.func7, Try.ntmps7
    go_wp2
    go_ret
    exact ⟨rfl, Below.refl _ _⟩
  obtain ⟨i0, hi, hz0, hz1, hz2⟩ := info_parts Try.info5
  obtain ⟨out, hout⟩ : ∃ out : ByteArray, out = ⟨(List.replicate n (48 : UInt8)).toArray⟩ := ⟨_, rfl⟩
  rw [← hout]
  have HO : Hid (out = ⟨(List.replicate n (48 : UInt8)).toArray⟩) := hout
  clear hout
  go_enter Try.func7, Try.ntmps7
  go_wp2_with (at_make; refine wpList_make_full _ rfl _ _ 27 rfl w.heap.size 5 i0 (.int .u8 0) 1 Try.underlying27 hi hz0 hz1 .i64 .i64 _ _ n rfl rfl rfl rfl (by rw [hz2]; omega) (by unfold maxLen; omega) (Nat.le_refl _) ?_; intro w1 hown hgrow)
  have hown1 := own_made hown
  have hb1 : Below w.heap.size w w1 := (Below.refl _ _).grown hgrow (Nat.le_refl _) (by simp)
  clear hown hgrow
  go_loopw [4] (fun i wr => ∃ k : Nat, k ≤ n ∧ i = .int .i64 k ∧ own w.heap.size n wr (List.replicate k 48) ∧ Below w.heap.size w wr) (fun i _ => n - (intOf i).toNat)
  case atStart => exact ⟨0, by omega, rfl, hown1, hb1⟩
  case round =>
    obtain ⟨k, hk, rfl, hown, hb⟩ := hrel
    clear hown1 hb1
    by_cases hlt : k < n
    · obtain ⟨u, h2⟩ := own_cell hown (k := k) (by simpa using hk) hlt
      have h3 := own_frozen hown k
      have H1 : Hid (own w.heap.size n (wr.setCell ⟨w.heap.size, k, none⟩ (.int .u8 48)) (List.replicate k 48 ++ [48])) := own_store hown (k := k) (by simp) hlt 48
      have H2 : Hid (Below w.heap.size w (wr.setCell ⟨w.heap.size, k, none⟩ (.int .u8 48))) := hb.setCell (Nat.le_refl _) _
      clear hown hb
      go_wp2
      go_roundw
      case rel => exact ⟨k + 1, by omega, by go_num, by rw [List.replicate_succ']; exact H1.out, H2.out⟩
      case measure => simp [intOf]; omega
    · obtain rfl : k = n := by omega
      have hconv := own_string (l := List.replicate k (48 : UInt8)) (by rw [List.map_replicate]; exact hown) (by simp)
      rw [← HO.out] at hconv
      clear hown
      go_wp2
      go_ret
      exact ⟨rfl, hb⟩
end Go.Proofs.Qxb6627745a
