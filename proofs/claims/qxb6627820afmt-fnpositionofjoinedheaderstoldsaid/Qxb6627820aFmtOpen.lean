import Derived.Test.Qxb6627820aFmtPlain
import Derived.ProofKit
import Derived.OpenShut
import Derived.ShutString
import Derived.ChangeOld
import Derived.Deep.Slices
import Derived.Deep.Strs
import Derived.DataReads
namespace Go.Proofs.Qxb6627820aFmt
open Go.ChangeShapes Go.WideShapes Go.ChangeAt Go.RowKit Go.Deep
open Go.ChangeMaps (open_string shut_string)

theorem Tryf.cells9 : Tryf.prog.cellsOf 9 = 1 := by kernel_rfl

theorem pick_all {α : Type} (d : α) {P : Nat → α → Prop} (n : Nat) (h : ∀ i, i < n → ∃ s, P i s) : ∃ f : Nat → α, ∀ i, i < n → P i (f i) := by
  induction n with
  | zero => exact ⟨fun _ => d, fun i hi => by omega⟩
  | succ n ih =>
    obtain ⟨f, hf⟩ := ih (fun i hi => h i (by omega))
    obtain ⟨s, hs⟩ := h n (by omega)
    refine ⟨fun i => if i = n then s else f i, fun i hi => ?_⟩
    show P i (if i = n then s else f i)
    by_cases e : i = n
    · subst e; rw [if_pos rfl]; exact hs
    · rw [if_neg e]; exact hf i (by omega)

section
variable {H : Type} {enc : TypeId × Value → H} {w : World} {base : Nat} {spare : Nat → Bool} {held : Bool}

theorem cells_get {a : Addr} {n : Nat} {cs : List Value} (h : w.cells? base a n = some cs) : cs.length = n ∧ ∀ j, j < n → w.cell? (a.add j) = cs[j]? := by
  unfold World.cells? at h
  split at h
  · refine ⟨by simpa using mapM_some_length h, fun j hj => ?_⟩
    exact mapM_some_get h j j (by simp [hj])
  · cases h

theorem add_none (b off j : Nat) : (⟨b, off, none⟩ : Addr).add j = ⟨b, off + j, none⟩ := by
  unfold Addr.add
  split <;> simp_all

/-- the slice of strings, opened -/
theorem strs_of_trod {fuel : Nat} {a : Option Addr} {n c : Nat} {x : DataW H × List MemPlace} (h : DataW.trod enc Tryf.prog w base spare held fuel 22 [.slice a n c] = some x) :
    n ≤ 9223372036854775807 ∧ ∃ xs, (∀ i, (st xs i).size ≤ 9223372036854775807) ∧ At w a n xs := by
  rcases open_slice Tryf.underlying22 h with ⟨hcs, _⟩ | ⟨ad, len, cap, m, k, D, Pl, hcs, _, hl, hm, hmm, _, hx⟩
  · simp at hcs
    obtain ⟨rfl, rfl, rfl⟩ := hcs
    exact ⟨by omega, [], fun i => by simp [st], At.empty _ _⟩
  · simp at hcs
    obtain ⟨rfl, rfl, rfl⟩ := hcs
    unfold maxLen at hm
    refine ⟨by omega, ?_⟩
    have hnm : n ≤ m := by rw [hmm]; split <;> omega
    rw [Tryf.cells9] at hx
    have hb : ∀ i, i < n → ∃ s : ByteArray, s.size ≤ 9223372036854775807 ∧ w.cell? (ad.add i) = some (.string s) := fun i hi => by
      obtain ⟨cs', h1, h2⟩ := hx i (by omega)
      obtain ⟨s, hs, _, hz⟩ := DataW.trod_string Tryf.underlying9 h2
      refine ⟨s, hz, ?_⟩
      have h3 := (cells_get h1).2 0 (by omega)
      rw [hs] at h3
      obtain ⟨b, off, spot⟩ := ad
      simpa [Addr.add] using h3
    obtain ⟨f, hf⟩ := pick_all ByteArray.empty n hb
    have hst : ∀ i, i < n → st ((List.range n).map f) i = f i := fun i hi => by simp [st, List.getD, hi]
    have hsz : ∀ i, ¬ i < n → st ((List.range n).map f) i = ByteArray.empty := fun i hi => by
      unfold st List.getD
      rw [List.getElem?_eq_none (by simp; omega)]
      rfl
    refine ⟨(List.range n).map f, fun i => ?_, by simp, fun i hi => ?_⟩
    · by_cases hi : i < n
      · rw [hst i hi]; exact (hf i hi).1
      · rw [hsz i hi]; simp
    · rw [hst i hi]
      obtain ⟨_, hc⟩ := hf i hi
      obtain ⟨b, off, spot⟩ := ad
      have hs : spot = none := by
        have h1 := World.cell?_spot (hf 0 (by omega)).2
        simpa [Addr.add] using h1
      subst hs
      rw [add_none] at hc
      exact ⟨b, off, rfl, hc⟩
end
end Go.Proofs.Qxb6627820aFmt
