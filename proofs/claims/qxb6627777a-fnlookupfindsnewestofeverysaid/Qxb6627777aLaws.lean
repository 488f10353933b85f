import Derived.Test.Qxb6627777aSizes5
import Derived.Deep.WholeRow
namespace Go.Proofs.Qxb6627777a
open Go.RowKit

section
variable {ops : Array Oper} {rest : List Oper} {o : Oper} {a : Act} {Q : Exit → Act → World → Prop}

theorem wpList_value {P : Program} {w w' : World} {v : Value} (hgd : o.guard = none) (hrun : (execOp a.eval o).run P w = .ok (.value v) w') (h : wpList P ops Q rest (a.put o.dst v) w') : wpList P ops Q (o :: rest) a w :=
  wpList_plain hgd fun K hK => by unfold Oper.wp; rw [hrun]; exact hK _ _ h
theorem wpList_skips {P : Program} {w w' : World} (hgd : o.guard = none) (hrun : (execOp a.eval o).run P w = .ok .skip w') (h : wpList P ops Q rest (a.put o.dst undef) w') : wpList P ops Q (o :: rest) a w :=
  wpList_plain hgd fun K hK => by unfold Oper.wp; rw [hrun]; exact hK _ _ h

/-- the zero binding's cells -/
def zc : Array Value := (bcells ByteArray.empty zkey 0 false).toArray

theorem wpList_build31z {w : World} (hgd : o.guard = none) (ho : o.op = .build 31 #[]) (h : wpList Try.prog ops Q rest (a.put o.dst (.agg zc)) w) : wpList Try.prog ops Q (o :: rest) a w := by
  refine wpList_value hgd (v := .agg zc) (w' := w) ?_ h
  have e : (#[] : Array (Nat × Operand)).map (fun (i, x) => (i, a.eval x)) = #[] := by simp
  unfold execOp
  simp only [ho, e, build31z, Sem.run_bind, Result.andThen_ok, Sem.run_pure]
  rfl
theorem wpList_alloc31 {w : World} (hgd : o.guard = none) (ho : o.op = .alloc 31) (h : wpList Try.prog ops Q rest (a.put o.dst (.pointer (some ⟨w.heap.size, 0, none⟩))) (w.alloc (.cells zc 31))) : wpList Try.prog ops Q (o :: rest) a w := by
  have hr : (Instr.alloc 31 true (.tuple #[])).run Try.prog w = .ok (.pointer (some ⟨w.heap.size, 0, none⟩)) (w.alloc (.cells zc 31)) := by kernel_rfl
  refine wpList_value hgd (v := .pointer (some ⟨w.heap.size, 0, none⟩)) (w' := w.alloc (.cells zc 31)) ?_ h
  unfold execOp
  simp only [ho, hr, Sem.run_bind, Result.andThen_ok, Sem.run_pure]
theorem wpList_build31 {w : World} (hgd : o.guard = none) (x0 x1 x2 x3 : Operand) (ho : o.op = .build 31 #[(0, x0), (1, x1), (2, x2), (3, x3)]) (id : ByteArray) (ks : List Value) (i : Int) (r : Bool)
    (h0 : a.eval x0 = .string id) (h1 : a.eval x1 = .agg ks.toArray) (h2 : a.eval x2 = .int .u64 i) (h3 : a.eval x3 = .bool r) (hk : ks.length = 32)
    (h : wpList Try.prog ops Q rest (a.put o.dst (.agg (bcells id ks i r).toArray)) w) : wpList Try.prog ops Q (o :: rest) a w := by
  refine wpList_value hgd (v := .agg (bcells id ks i r).toArray) (w' := w) ?_ h
  have e : (#[(0, x0), (1, x1), (2, x2), (3, x3)] : Array (Nat × Operand)).map (fun (i, x) => (i, a.eval x)) = #[(0, .string id), (1, .agg ks.toArray), (2, .int .u64 i), (3, .bool r)] := by simp [h0, h1, h2, h3]
  unfold execOp
  simp only [ho, e, build31 id ks i r w hk, Sem.run_bind, Result.andThen_ok, Sem.run_pure]
theorem wpList_box23 {w : World} (hgd : o.guard = none) (x : Operand) (ho : o.op = .box 23 x) (ks : List Value) (hx : a.eval x = .agg ks.toArray) (hk : ks.length = 32)
    (h : wpList Try.prog ops Q rest (a.put o.dst (.pointer (some ⟨w.heap.size, 0, none⟩))) (w.alloc (.cells ks.toArray 23))) : wpList Try.prog ops Q (o :: rest) a w := by
  refine wpList_value hgd (v := .pointer (some ⟨w.heap.size, 0, none⟩)) (w' := w.alloc (.cells ks.toArray 23)) ?_ h
  unfold execOp
  simp only [ho, hx, box23 ks w hk, Sem.run_bind, Result.andThen_ok, Sem.run_pure]
theorem wpList_buildSlice37 {w : World} (hgd : o.guard = none) (x : Operand) (ho : o.op = .buildSlice 37 1 #[(0, x)]) (id : ByteArray) (ks : List Value) (i : Int) (r : Bool)
    (hx : a.eval x = .agg (bcells id ks i r).toArray) (hk : ks.length = 32)
    (h : wpList Try.prog ops Q rest (a.put o.dst (.slice (some ⟨w.heap.size, 0, none⟩) 1 1)) (w.alloc (.cells (bcells id ks i r).toArray 31))) : wpList Try.prog ops Q (o :: rest) a w := by
  refine wpList_value hgd (v := .slice (some ⟨w.heap.size, 0, none⟩) 1 1) (w' := w.alloc (.cells (bcells id ks i r).toArray 31)) ?_ h
  have e : (#[(0, x)] : Array (Nat × Operand)).map (fun (i, x) => (i, a.eval x)) = #[(0, .agg (bcells id ks i r).toArray)] := by simp [hx]
  unfold execOp
  simp only [ho, e, buildSlice37 (bcells id ks i r) id ks i r w hk rfl, Sem.run_bind, Result.andThen_ok, Sem.run_pure]
theorem guard31 : Try.prog.eqGuardType Try.prog.depth 31 = false := by kernel_rfl
theorem wpList_eql31 {w : World} (hgd : o.guard = none) (x y : Operand) (ho : o.op = .binOp .eql 31 x y 31) (id : ByteArray) (ks : List Value) (i : Int) (r : Bool) (hk : Key ks)
    (hx : a.eval x = .agg (bcells id ks i r).toArray) (hy : a.eval y = .agg (bcells id ks i r).toArray) (h : wpList Try.prog ops Q rest (a.put o.dst (.bool true)) w) : wpList Try.prog ops Q (o :: rest) a w := by
  refine wpList_value hgd (v := .bool true) (w' := w) ?_ h
  unfold execOp
  simp only [ho, hx, hy, run_eqGuard_agg w .eql 31 x y _ _ guard31, eql31 id ks i r hk w, Sem.run_bind, Result.andThen_ok, Sem.run_pure]

/-- a whole binding into the block that was made last -/
theorem wpList_store31 {w : World} (hgd : o.guard = none) (x y : Operand) (ho : o.op = .store 31 x y) (c : Array Value) (hc : c.size = 35) (cs : List Value) (hl : cs.length = 35) (h1 : ∀ v ∈ cs, v.oneCell' = true)
    (hx : a.eval x = .pointer (some ⟨w.heap.size, 0, none⟩)) (hy : a.eval y = .agg cs.toArray)
    (h : wpList Try.prog ops Q rest (a.put o.dst undef) (w.alloc (.cells cs.toArray 31))) : wpList Try.prog ops Q (o :: rest) a (w.alloc (.cells c 31)) := by
  refine wpList_skips hgd (w' := w.alloc (.cells cs.toArray 31)) ?_ h
  have hr := run_storeAt_new (P := Try.prog) w 31 c cs.toArray (by rw [Try.size31]; simp [hl]) (by simp [hl, hc]) (all_oneCell_toArray h1)
  unfold execOp
  simp only [ho, hx, hy, hr, Sem.run_bind, Result.andThen_ok, Sem.run_pure]
end
end Go.Proofs.Qxb6627777a
