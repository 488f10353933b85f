import Derived.Test.Qxb6627820aFmtBytes
namespace Go.Proofs.Qxb6627820aFmt
open Go.RowKit

theorem Tryf.info9 : (Tryf.prog.info? 9).map (fun i => (i.zero, i.size, i.bytes)) = some (some (.string ByteArray.empty), 1, 16) := by kernel_rfl
theorem Tryf.size9 : (Tryf.prog.info? 9).map (·.size) = some 1 := by kernel_rfl

/-- 'make([]string, n)' -/
theorem make_strs {w : World} {ops : Array Oper} {rest : List Oper} {o : Oper} {a : Act} {Q : Exit → Act → World → Prop} (hg : o.guard = none) (l : Operand) (hop : o.op = Op.makeSlice 22 l l)
    (L : Int) (n : Nat) (hl : a.eval l = .int .i64 L) (hL : L = (n : Int)) (hn : n ≤ 2097152)
    (hK : ∀ w', Hid (w'.heap[w.heap.size]? = some (.cells (List.replicate n (.string ByteArray.empty)).toArray 9 (0, 0))) → Below w.heap.size w w' → wpList Tryf.prog ops Q rest (a.put o.dst (.slice (some ⟨w.heap.size, 0, none⟩) n n)) w') :
    wpList Tryf.prog ops Q (o :: rest) a w := by
  obtain ⟨i0, hi, hz0, hz1, hz2⟩ := info_parts Tryf.info9
  refine wpList_make_full w hg l l 22 hop w.heap.size 9 i0 (.string ByteArray.empty) 1 Tryf.underlying22 hi hz0 hz1 .i64 .i64 L L n hl hl hL hL (by rw [hz2]; omega) (by unfold maxLen; omega) (Nat.le_refl _) ?_
  intro w1 hown hgrow
  refine hK w1 ?_ ((Below.refl _ _).grown hgrow (Nat.le_refl _) (by simp))
  show _ = _
  obtain ⟨h1, h2⟩ := hown
  rcases h2 with ⟨h, _⟩ | ⟨g, cap, cur, hv, _, hg, _, _, hs, ht⟩
  · simp at h
  · simp at hv
    obtain ⟨rfl, rfl⟩ := hv
    rw [List.take_of_length_le (by simp [hs])] at ht
    have ht' : cur.toList = List.replicate n (.string ByteArray.empty) := by
      rw [ht, ← toList_madeCells_one]
      simp [Value.cells]
    rw [hg, ← ht']

theorem at_block {w : World} {g n : Nat} {xs : List ByteArray} (hl : xs.length = n) (h : w.heap[g]? = some (.cells (xs.map Value.string).toArray 9 (0, 0))) : At w (some ⟨g, 0, none⟩) n xs := by
  refine ⟨hl, fun i hi => ⟨g, 0, rfl, ?_⟩⟩
  simp [World.cell?, h, st, List.getD, List.getElem?_eq_getElem (show i < xs.length by omega)]

/-- 'copy(new, src)' -/
theorem copy_strs {w : World} {ops : Array Oper} {rest : List Oper} {o : Oper} {a : Act} {Q : Exit → Act → World → Prop} (hgd : o.guard = none) (d s : Operand)
    (ho : o.op = .call { callee := .builtin .copy, args := #[d, s], argTypes := #[22, 22] })
    (w0 : World) (p : Option Addr) (n c : Nat) (xs : List ByteArray) (hd : a.eval d = .slice (some ⟨w0.heap.size, 0, none⟩) n n) (hs : a.eval s = .slice p n c)
    (hg : Hid (w.heap[w0.heap.size]? = some (.cells (List.replicate n (.string ByteArray.empty)).toArray 9 (0, 0)))) (hb : Below w0.heap.size w0 w) (A : At w0 p n xs)
    (h : ∀ w', At w' (some ⟨w0.heap.size, 0, none⟩) n xs → Below w0.heap.size w0 w' → wpList Tryf.prog ops Q rest (a.put o.dst (goInt n)) w') :
    wpList Tryf.prog ops Q (o :: rest) a w := by
  have hl := A.1
  have hlen : (xs.map Value.string).length = n := by simp [hl]
  refine wpList_copy_splice hgd d s 22 22 ho 9 Tryf.underlying22 Tryf.size9 _ p n n n c hd hs w0.heap.size 0 _ 9 hg.out (xs.map Value.string) (by rw [hlen]; exact (Nat.min_self n).symm) ?_ (by simp [hl]) ?_ w0.heap.size w0 hb (Nat.le_refl _) ?_
  · intro hp
    obtain ⟨b, off, rfl, hc⟩ := A.spot (by omega)
    refine ⟨rfl, _, rfl, fun j v hv => ?_⟩
    have hj : j < xs.length := by
      have := (List.getElem?_eq_some_iff.1 hv).1
      simpa using this
    have hcc := hc j (by omega)
    have e1 : (⟨b, off, none⟩ : Addr).add j = ⟨b, off + j, none⟩ := by
      unfold Addr.add
      split <;> simp_all
    rw [e1, hb.cell (lt_cell hcc), hcc]
    rw [List.getElem?_map, List.getElem?_eq_getElem hj] at hv
    simp [st, List.getD, List.getElem?_eq_getElem hj]
    simpa using hv
  · intro v hv
    obtain ⟨x, _, rfl⟩ := List.mem_map.1 hv
    rfl
  · intro w' hw' hb'
    rw [hlen]
    refine h w' (at_block hl ?_) hb'
    have := hw'.out
    rw [this]
    simp [splice, hl]
end Go.Proofs.Qxb6627820aFmt
