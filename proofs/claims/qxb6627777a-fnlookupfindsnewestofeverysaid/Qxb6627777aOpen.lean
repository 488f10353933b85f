import Derived.Test.Qxb6627777aEnrol
import Derived.ProofKit
import Derived.OpenShut
import Derived.ShutString
import Derived.ChangeOld
import Derived.Deep.Slices
import Derived.Deep.Strs
import Derived.DataReads
namespace Go.Proofs.Qxb6627777a
open Go.ChangeShapes Go.WideShapes Go.ChangeAt Go.RowKit Go.Deep
open Go.ChangeMaps (open_string shut_string)

theorem Try.cells36 : Try.prog.cellsOf 36 = 34 := by kernel_rfl
theorem Try.cells23 : Try.prog.cellsOf 23 = 32 := by kernel_rfl
theorem Try.cells9 : Try.prog.cellsOf 9 = 1 := by kernel_rfl
theorem Try.cells4 : Try.prog.cellsOf 4 = 1 := by kernel_rfl
theorem Try.cells5 : Try.prog.cellsOf 5 = 1 := by kernel_rfl

theorem pick_all {α : Type} (d : α) {P : Nat → α → Prop} (n : Nat) (h : ∀ i, i < n → ∃ s, P i s) : ∃ f : Nat → α, ∀ i, i < n → P i (f i) := by
  induction n with
  | zero => exact ⟨fun _ => d, fun i hi => by omega⟩
  | succ n ih =>
    obtain ⟨f, hf⟩ := ih (fun i hi => h i (by omega))
    obtain ⟨s, hs⟩ := h n (by omega)
    refine ⟨fun i => if i = n then s else f i, fun i hi => ?_⟩
    show P i (if i = n then s else f i)
    by_cases e : i = n
    · subst e; rw [if_pos rfl]; exact hs
    · rw [if_neg e]; exact hf i (by omega)

section
variable {H : Type} {enc : TypeId × Value → H} {w : World} {base : Nat} {spare : Nat → Bool} {held : Bool}

/-- an array of thirty-two bytes, opened -/
theorem key_of_trod {fuel : Nat} {cs : List Value} {x : DataW H × List MemPlace} (h : DataW.trod enc Try.prog w base spare held fuel 23 cs = some x) : Key cs := by
  obtain ⟨xs, m, _, _, hl, hx, hi⟩ := DataW.trod_array Try.underlying23 h
  rw [Try.cells23] at hl
  refine ⟨hl, fun v hv => ?_⟩
  obtain ⟨i, hi', rfl⟩ := List.mem_iff_getElem.1 hv
  have h1 := hi i (by omega)
  rw [Try.cells5, List.getElem?_eq_getElem (by omega)] at h1
  obtain ⟨n, hn, _, hw⟩ := DataW.trod_int Try.underlying5 h1
  refine ⟨n, ?_, hw⟩
  rw [Nat.mul_one, List.drop_eq_getElem_cons hi'] at hn
  have h2 : (cs[i] :: cs.drop (i + 1)).take 1 = [cs[i]] := rfl
  rw [h2] at hn
  exact (List.cons.inj hn).1

/-- one binding's thirty-four cells, opened -/
theorem bd_of_trod {fuel : Nat} {cs : List Value} {x : DataW H × List MemPlace} (h : DataW.trod enc Try.prog w base spare held fuel 36 cs = some x) :
    ∃ b : Bd, Key b.key ∧ b.id.size ≤ 9223372036854775807 ∧ cs = .string b.id :: (b.key ++ [.bool b.rev]) := by
  obtain ⟨y0, y1, y2, n, _, hl, h0, h1, h2⟩ := trod_struct3 Try.underlying36 h
  rw [Try.cells36] at hl
  obtain ⟨s, hs, _, hz⟩ := DataW.trod_string Try.underlying9 h0
  have hk := key_of_trod h1
  obtain ⟨r, hr, _⟩ := DataW.trod_bool Try.underlying4 h2
  simp only [Try.cells9, Try.cells23, Try.cells4] at hs hk hr
  refine ⟨⟨s, (cs.drop 1).take 32, r⟩, hk, hz, ?_⟩
  have e1 : cs = cs.take 1 ++ cs.drop 1 := (List.take_append_drop 1 cs).symm
  have e2 : cs.drop 1 = (cs.drop 1).take 32 ++ (cs.drop 1).drop 32 := (List.take_append_drop 32 _).symm
  have e3 : (cs.drop 1).drop 32 = [.bool r] := by
    rw [List.drop_drop]
    rw [← hr, List.take_of_length_le (by simp; omega)]
  have e0 : cs.take 1 = [.string s] := by simpa using hs
  show cs = .string s :: ((cs.drop 1).take 32 ++ [.bool r])
  rw [← e3, ← e2]
  conv => lhs; rw [e1, e0]
  rfl

theorem cells_get {a : Addr} {n : Nat} {cs : List Value} (h : w.cells? base a n = some cs) : cs.length = n ∧ ∀ j, j < n → w.cell? (a.add j) = cs[j]? := by
  unfold World.cells? at h
  split at h
  · refine ⟨by simpa using mapM_some_length h, fun j hj => ?_⟩
    exact mapM_some_get h j j (by simp [hj])
  · cases h

theorem add_none (b off j : Nat) : (⟨b, off, none⟩ : Addr).add j = ⟨b, off + j, none⟩ := by
  unfold Addr.add
  split <;> simp_all

/-- the slice of bindings, opened -/
theorem bs_of_trod {fuel : Nat} {a : Option Addr} {n c : Nat} {x : DataW H × List MemPlace} (h : DataW.trod enc Try.prog w base spare held fuel 22 [.slice a n c] = some x) :
    n ≤ 9223372036854775807 ∧ ∃ B, BsAt w a n B := by
  rcases open_slice Try.underlying22 h with ⟨hcs, _⟩ | ⟨ad, len, cap, m, k, D, Pl, hcs, _, hl, hm, hmm, _, hx⟩
  · simp at hcs
    obtain ⟨rfl, rfl, rfl⟩ := hcs
    exact ⟨by omega, [], rfl, fun i => zkey_ok, fun i => by simp [bd, Bd.zero], fun i hi => by omega⟩
  · simp at hcs
    obtain ⟨rfl, rfl, rfl⟩ := hcs
    unfold maxLen at hm
    refine ⟨by omega, ?_⟩
    have hnm : n ≤ m := by rw [hmm]; split <;> omega
    rw [Try.cells36] at hx
    have hb : ∀ i, i < n → ∃ b : Bd, (Key b.key ∧ b.id.size ≤ 9223372036854775807) ∧ ∀ j, j < 34 → w.cell? ((ad.add (i * 34)).add j) = (.string b.id :: (b.key ++ [.bool b.rev]))[j]? := fun i hi => by
      obtain ⟨cs', h1, h2⟩ := hx i (by omega)
      obtain ⟨b, hk, hz, rfl⟩ := bd_of_trod h2
      exact ⟨b, ⟨hk, hz⟩, (cells_get h1).2⟩
    obtain ⟨f, hf⟩ := pick_all Bd.zero n hb
    have hbd : ∀ i, i < n → bd ((List.range n).map f) i = f i := fun i hi => by simp [bd, List.getD, hi]
    have hbz : ∀ i, ¬ i < n → bd ((List.range n).map f) i = Bd.zero := fun i hi => by
      unfold bd List.getD
      rw [List.getElem?_eq_none (by simp; omega)]
      rfl
    refine ⟨(List.range n).map f, by simp, fun i => ?_, fun i => ?_, fun i hi => ?_⟩
    · by_cases hi : i < n
      · rw [hbd i hi]; exact (hf i hi).1.1
      · rw [hbz i hi]; exact zkey_ok
    · by_cases hi : i < n
      · rw [hbd i hi]; exact (hf i hi).1.2
      · rw [hbz i hi]; simp [Bd.zero]
    · rw [hbd i hi]
      obtain ⟨⟨hk, _⟩, hc⟩ := hf i hi
      obtain ⟨b, off, spot⟩ := ad
      have hs : spot = none := by
        have h0 := (hf 0 (by omega)).2 0 (by omega)
        have h1 := World.cell?_spot (h0.trans rfl)
        simpa [Addr.add] using h1
      subst hs
      have hc' : ∀ j, j < 34 → w.cell? ⟨b, off + i * 34 + j, none⟩ = (.string (f i).id :: ((f i).key ++ [.bool (f i).rev]))[j]? := fun j hj => by
        have := hc j hj
        rw [add_none, add_none] at this
        exact this
      refine ⟨b, off, rfl, ?_, fun j v hv => ?_, ?_⟩
      · have := hc' 0 (by omega)
        simpa using this
      · have hj : j < 32 := by have := (List.getElem?_eq_some_iff.1 hv).1; rw [hk.1] at this; exact this
        have := hc' (1 + j) (by omega)
        rw [show off + i * 34 + 1 + j = off + i * 34 + (1 + j) by omega, this, Nat.add_comm 1 j, List.getElem?_cons_succ, List.getElem?_append_left (by rw [hk.1]; exact hj)]
        exact hv
      · have := hc' 33 (by omega)
        rw [this, List.getElem?_cons_succ, List.getElem?_append_right (by rw [hk.1]; omega), hk.1]
        rfl
end
end Go.Proofs.Qxb6627777a
