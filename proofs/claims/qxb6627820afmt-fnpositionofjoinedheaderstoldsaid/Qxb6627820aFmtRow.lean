import Derived.Test.Qxb6627820aFmtBytes7
namespace Go.Proofs.Qxb6627820aFmt
open Go.RowKit
open Go.Extern.Stop Go.Stop Go.Extern

/-- what Position answers: the position 'p' and the error 'er' -/
def PosIs (xs : List ByteArray) (col : ByteArray) (n : Nat) (p : Int) (er : Value) : Prop :=
  (No xs col n ∧ p = -1 ∧ er = .nilIface) ∨ (∃ f, One xs col n f ∧ p = f ∧ er = .nilIface) ∨ ∃ f m, Two xs col n f m ∧ p = 0 ∧ ∃ T v, er = .iface T v

theorem pos_any (F : Interp) (a : Option Addr) (n c : Nat) (xs : List ByteArray) (col : ByteArray) (w : World) (hF : F.answers w.tape) (hn : n ≤ 1048576) (h : At w a n xs) :
    Calls Tryf.prog 6 #[.slice a n c, .string col] w fun e w' => ∃ p er, e = .returned (.tuple #[.int .i64 p, er]) ∧ PosIs xs col n p er ∧ Below w.heap.size w w' := by
  rcases classes xs col n with hno | ⟨f, h1⟩ | ⟨f, m, h2⟩
  · refine (pos_none a n c xs col w hn h hno).mono ?_
    rintro e w' ⟨rfl, rfl⟩
    exact ⟨_, _, rfl, .inl ⟨hno, rfl, rfl⟩, Below.refl _ _⟩
  · refine (pos_one a n c xs col f w hn h h1.1 h1.2.1 h1.2.2).mono ?_
    rintro e w' ⟨rfl, rfl⟩
    exact ⟨_, _, rfl, .inr (.inl ⟨f, h1, rfl, rfl⟩), Below.refl _ _⟩
  · refine (pos_two F a n c xs col f m w hF hn h h2.1 h2.2.1 h2.2.2.1 h2.2.2.2.1 h2.2.2.2.2).mono ?_
    rintro e w' ⟨⟨T, v, rfl⟩, hb⟩
    exact ⟨_, _, rfl, .inr (.inr ⟨f, m, h2, rfl, T, v, rfl⟩), hb⟩

/-- the cells after 'k' of 'n' strings are laid -/
def cop (xs : List ByteArray) (n k : Nat) : List Value := (xs.take k ++ List.replicate (n - k) ByteArray.empty).map Value.string
theorem cop_zero (xs : List ByteArray) (n : Nat) : cop xs n 0 = List.replicate n (Value.string ByteArray.empty) := by simp [cop]
theorem cop_step (xs : List ByteArray) (n k : Nat) (hl : xs.length = n) (h : k < n) : (cop xs n k).set k (.string (st xs k)) = cop xs n (k + 1) := by
  unfold cop
  rw [show n - k = (n - (k + 1)) + 1 by omega, List.replicate_succ]
  have e : st xs k = xs[k] := by simp [st, List.getD, List.getElem?_eq_getElem (show k < xs.length by omega)]
  rw [e, ← List.map_set]
  congr 1
  rw [List.set_append_right _ _ (by simp; omega)]
  have : k - (List.take k xs).length = 0 := by simp; omega
  rw [this, List.take_succ_eq_append_getElem (by omega), List.append_assoc]
  rfl
theorem cop_end (xs : List ByteArray) (n : Nat) (hl : xs.length = n) : cop xs n n = xs.map Value.string := by
  subst hl; simp [cop]
theorem at_owns {w : World} {B g n cap : Nat} {xs : List ByteArray} (hl : xs.length = n) (h : w.ownsRow B 9 1 (.slice (some ⟨g, 0, none⟩) n cap) n (xs.map Value.string)) : At w (some ⟨g, 0, none⟩) n xs := by
  refine ⟨hl, fun i hi => ⟨g, 0, rfl, ?_⟩⟩
  rw [Nat.zero_add, h.cellAt i (by omega)]
  simp [st, List.getD, List.getElem?_eq_getElem (show i < xs.length by omega)]

/-- 'joined' is in the making: 'k' of 'n' cells are laid -/
def Own (w : World) (g : Nat) (zs : List ByteArray) (n k : Nat) : Prop := w.ownsRow g 9 1 (.slice (some ⟨g, 0, none⟩) n n) n (cop zs n k)
theorem Own.step {w : World} {g : Nat} {zs : List ByteArray} {n k : Nat} (h : Own w g zs n k) (hl : zs.length = n) (hk : k < n) :
    Own (w.setCell ⟨g, k, none⟩ (.string (st zs k))) g zs n (k + 1) ∧ (∃ u, w.cell? ⟨g, k, none⟩ = some u) ∧ w.frozen? ⟨g, k, none⟩ = false := by
  refine ⟨?_, ?_, World.ownsRow.frozenAt h k⟩
  · unfold Own
    rw [← cop_step zs n k hl hk]
    exact (World.ownsRow.stored h k (.string (st zs k))).1
  · rw [World.ownsRow.cellAt h k (by omega)]
    exact ⟨_, List.getElem?_eq_getElem (by rw [h.1]; omega)⟩
theorem Own.done {w : World} {g : Nat} {zs : List ByteArray} {n : Nat} (h : Own w g zs n n) (hl : zs.length = n) : At w (some ⟨g, 0, none⟩) n zs := by
  unfold Own at h
  rw [cop_end zs n hl] at h
  exact at_owns hl h

/-- 'make([]string, n)', to be filled by 'zs' -/
theorem make_own {w : World} {ops : Array Oper} {rest : List Oper} {o : Oper} {a : Act} {Q : Exit → Act → World → Prop} (hg : o.guard = none) (l : Operand) (hop : o.op = Op.makeSlice 22 l l)
    (zs : List ByteArray) (L : Int) (n : Nat) (hl : a.eval l = .int .i64 L) (hL : L = (n : Int)) (hn : n ≤ 2097152)
    (hK : ∀ w', Own w' w.heap.size zs n 0 → Below w.heap.size w w' → wpList Tryf.prog ops Q rest (a.put o.dst (.slice (some ⟨w.heap.size, 0, none⟩) n n)) w') :
    wpList Tryf.prog ops Q (o :: rest) a w := by
  obtain ⟨i0, hi, hz0, hz1, hz2⟩ := info_parts Tryf.info9
  refine wpList_make_full w hg l l 22 hop w.heap.size 9 i0 (.string ByteArray.empty) 1 Tryf.underlying22 hi hz0 hz1 .i64 .i64 L L n hl hl hL hL (by rw [hz2]; omega) (by unfold maxLen; omega) (Nat.le_refl _) ?_
  intro w1 hown hgrow
  refine hK w1 ?_ ((Below.refl _ _).grown hgrow (Nat.le_refl _) (by simp))
  unfold Own
  rw [cop_zero, ← toList_madeCells_one]
  simpa [Value.cells] using hown
end Go.Proofs.Qxb6627820aFmt
