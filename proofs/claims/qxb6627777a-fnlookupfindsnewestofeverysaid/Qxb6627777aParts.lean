import Derived.Test.Qxb6627777aRows
import Derived.WalkKit
import Derived.WalkSpells
import Derived.WalkLawsBesides
import Derived.Below
import Derived.Deep.MidRow
import Derived.ChangeKeysEq
namespace Go.Proofs.Qxb6627777a
open Go.RowKit

/-- a list of thirty-two, written out -/
theorem list32 {α : Type} (l : List α) (h : l.length = 32) : ∃ k0 k1 k2 k3 k4 k5 k6 k7 k8 k9 k10 k11 k12 k13 k14 k15 k16 k17 k18 k19 k20 k21 k22 k23 k24 k25 k26 k27 k28 k29 k30 k31, l = [k0, k1, k2, k3, k4, k5, k6, k7, k8, k9, k10, k11, k12, k13, k14, k15, k16, k17, k18, k19, k20, k21, k22, k23, k24, k25, k26, k27, k28, k29, k30, k31] := by
  match l, h with
  | [k0, k1, k2, k3, k4, k5, k6, k7, k8, k9, k10, k11, k12, k13, k14, k15, k16, k17, k18, k19, k20, k21, k22, k23, k24, k25, k26, k27, k28, k29, k30, k31], _ => exact ⟨_, _, _, _, _, _, _, _, _, _, _, _, _, _, _, _, _, _, _, _, _, _, _, _, _, _, _, _, _, _, _, _, rfl⟩

/-- the cells of one binding of the registry -/
def bcells (id : ByteArray) (ks : List Value) (i : Int) (r : Bool) : List Value := .string id :: (ks ++ [.int .u64 i, .bool r])
def zkey : List Value := List.replicate 32 (.int .u8 0)
theorem bcells_len (id : ByteArray) (ks : List Value) (i : Int) (r : Bool) (h : ks.length = 32) : (bcells id ks i r).length = 35 := by simp [bcells, h]

theorem Try.size31 : (Try.prog.info? 31).map (·.size) = some 35 := by kernel_rfl
theorem Try.size23 : (Try.prog.info? 23).map (·.size) = some 32 := by kernel_rfl
theorem Try.size29 : (Try.prog.info? 29).map (·.size) = some 32 := by kernel_rfl

theorem build31 (id : ByteArray) (ks : List Value) (i : Int) (r : Bool) (w : World) (h : ks.length = 32) :
    (Instr.build 31 #[(0, .string id), (1, .agg ks.toArray), (2, .int .u64 i), (3, .bool r)]).run Try.prog w = .ok (.agg (bcells id ks i r).toArray) w := by
  obtain ⟨k0, k1, k2, k3, k4, k5, k6, k7, k8, k9, k10, k11, k12, k13, k14, k15, k16, k17, k18, k19, k20, k21, k22, k23, k24, k25, k26, k27, k28, k29, k30, k31, rfl⟩ := list32 ks h
  kernel_rfl
theorem build31z (w : World) : (Instr.build 31 #[]).run Try.prog w = .ok (.agg (bcells ByteArray.empty zkey 0 false).toArray) w := by kernel_rfl
theorem buildSlice37 (cs : List Value) (id : ByteArray) (ks : List Value) (i : Int) (r : Bool) (w : World) (h : ks.length = 32) (hc : cs = bcells id ks i r) :
    (Instr.buildSlice 37 1 #[(0, .agg cs.toArray)]).run Try.prog w = .ok (.slice (some ⟨w.heap.size, 0, none⟩) 1 1) (w.alloc (.cells cs.toArray 31)) := by
  subst hc
  obtain ⟨k0, k1, k2, k3, k4, k5, k6, k7, k8, k9, k10, k11, k12, k13, k14, k15, k16, k17, k18, k19, k20, k21, k22, k23, k24, k25, k26, k27, k28, k29, k30, k31, rfl⟩ := list32 ks h
  kernel_rfl
theorem box23 (ks : List Value) (w : World) (h : ks.length = 32) :
    (Instr.box 23 (.agg ks.toArray)).run Try.prog w = .ok (.pointer (some ⟨w.heap.size, 0, none⟩)) (w.alloc (.cells ks.toArray 23)) := by
  obtain ⟨k0, k1, k2, k3, k4, k5, k6, k7, k8, k9, k10, k11, k12, k13, k14, k15, k16, k17, k18, k19, k20, k21, k22, k23, k24, k25, k26, k27, k28, k29, k30, k31, rfl⟩ := list32 ks h
  kernel_rfl
theorem build47 (a : Option Addr) (n c : Nat) (m : Option Nat) (w : World) :
    (Instr.build 47 #[(1, .slice a n c), (2, .map m)]).run Try.prog w = .ok (.agg #[.slice none 0 0, .slice a n c, .map m, .map none, .slice none 0 0]) w := by kernel_rfl

/-! ### equality of a value with itself -/
theorem plain5 : Try.prog.plainKey 5 = true := by kernel_rfl
theorem some5 : (Try.prog.info? 5).isSome = true := by kernel_rfl
theorem info5 : ∃ i, Try.prog.info? 5 = some i := Option.isSome_iff_exists.1 some5
theorem eqItems_refl (d : Nat) (xs : Array Value) (w : World) : ∀ l : List Nat, (∀ i ∈ l, ∃ n, xs[i]? = some (.int .u8 n)) → (Op.eqItems (d + 1) 5 1 xs xs l).run Try.prog w = .ok true w
  | [], _ => by simp [Op.eqItems]
  | i :: l, h => by
    obtain ⟨n, hn⟩ := h i (by simp)
    have hp : (part 5 xs (i * 1)).run Try.prog w = .ok (.int .u8 n) w := run_part_plain w plain5 (by simpa using hn)
    have he : (Op.equalIn (d + 1) 5 (.int .u8 n) (.int .u8 n)).run Try.prog w = .ok true w := by rw [run_equalIn_int w d 5 .u8 .u8 n n Try.underlying5]; simp
    simp only [Op.eqItems, Sem.run_bind, hp, he, Result.andThen_ok, Bool.not_true, Bool.false_eq_true, if_false]
    exact eqItems_refl d xs w l (fun j hj => h j (by simp [hj]))

/-- thirty-two bytes -/
def Key (ks : List Value) : Prop := ks.length = 32 ∧ ∀ v ∈ ks, ∃ n, v = .int .u8 n ∧ (Lit.int .u8 n).wf = true
theorem Key.get {ks : List Value} (h : Key ks) (i : Nat) (hi : i < 32) : ∃ n, ks.toArray[i]? = some (.int .u8 n) := by
  obtain ⟨n, hn, _⟩ := h.2 (ks[i]'(by rw [h.1]; exact hi)) (List.getElem_mem _)
  exact ⟨n, by rw [← hn]; simp [List.getElem?_eq_getElem (show i < ks.length by rw [h.1]; exact hi)]⟩
theorem Key.one {ks : List Value} (h : Key ks) : ∀ v ∈ ks, v.oneCell' = true := fun v hv => by obtain ⟨n, rfl, _⟩ := h.2 v hv; rfl
theorem eqArr (t : TypeId) (ht : Try.prog.underlying t = some (.array 32 5)) (d : Nat) (ks : List Value) (h : Key ks) (w : World) :
    (Op.equalIn (d + 2) t (.agg ks.toArray) (.agg ks.toArray)).run Try.prog w = .ok true w := by
  obtain ⟨i, hi⟩ := info5
  rw [run_equalIn_array w (d + 1) _ _ ht hi]
  have hc : Try.prog.cellsOf 5 = 1 := by kernel_rfl
  rw [hc]
  exact eqItems_refl d _ w _ (fun j hj => h.get j (by simpa using hj))

theorem part31_0 (id : ByteArray) (ks : List Value) (i : Int) (r : Bool) (w : World) (h : ks.length = 32) : (part 9 (bcells id ks i r).toArray 0).run Try.prog w = .ok (.string id) w := by
  obtain ⟨k0, k1, k2, k3, k4, k5, k6, k7, k8, k9, k10, k11, k12, k13, k14, k15, k16, k17, k18, k19, k20, k21, k22, k23, k24, k25, k26, k27, k28, k29, k30, k31, rfl⟩ := list32 ks h
  kernel_rfl
theorem part31_1 (id : ByteArray) (ks : List Value) (i : Int) (r : Bool) (w : World) (h : ks.length = 32) : (part 29 (bcells id ks i r).toArray 1).run Try.prog w = .ok (.agg ks.toArray) w := by
  obtain ⟨k0, k1, k2, k3, k4, k5, k6, k7, k8, k9, k10, k11, k12, k13, k14, k15, k16, k17, k18, k19, k20, k21, k22, k23, k24, k25, k26, k27, k28, k29, k30, k31, rfl⟩ := list32 ks h
  kernel_rfl
theorem part31_2 (id : ByteArray) (ks : List Value) (i : Int) (r : Bool) (w : World) (h : ks.length = 32) : (part 28 (bcells id ks i r).toArray 33).run Try.prog w = .ok (.int .u64 i) w := by
  obtain ⟨k0, k1, k2, k3, k4, k5, k6, k7, k8, k9, k10, k11, k12, k13, k14, k15, k16, k17, k18, k19, k20, k21, k22, k23, k24, k25, k26, k27, k28, k29, k30, k31, rfl⟩ := list32 ks h
  kernel_rfl
theorem part31_3 (id : ByteArray) (ks : List Value) (i : Int) (r : Bool) (w : World) (h : ks.length = 32) : (part 4 (bcells id ks i r).toArray 34).run Try.prog w = .ok (.bool r) w := by
  obtain ⟨k0, k1, k2, k3, k4, k5, k6, k7, k8, k9, k10, k11, k12, k13, k14, k15, k16, k17, k18, k19, k20, k21, k22, k23, k24, k25, k26, k27, k28, k29, k30, k31, rfl⟩ := list32 ks h
  kernel_rfl

theorem eqFields_cons {P : Program} {f : Field} {fs : List Field} {d : Nat} {xs : Array Value} {w : World} {v : Value} (hn : f.name ≠ "_") (hp : (part f.type xs f.offset).run P w = .ok v w)
    (he : (Op.equalIn d f.type v v).run P w = .ok true w) (hr : (Op.eqFields d xs xs fs).run P w = .ok true w) : (Op.eqFields d xs xs (f :: fs)).run P w = .ok true w := by
  simp only [Op.eqFields, if_pos hn, Sem.run_bind, hp, he, Result.andThen_ok, Bool.not_true, Bool.false_eq_true, if_false]
  exact hr
set_option maxHeartbeats 400000 in
theorem eq31d (d : Nat) (id : ByteArray) (ks : List Value) (i : Int) (r : Bool) (h : Key ks) (w : World) :
    (Op.equalIn (d + 3) 31 (.agg (bcells id ks i r).toArray) (.agg (bcells id ks i r).toArray)).run Try.prog w = .ok true w := by
  have hu : Try.prog.underlying 31 = some (.struct (Try.prog.fieldsOf 31)) := by simp only [Program.fieldsOf, Try.underlying31]
  rw [run_equalIn_struct w (d + 2) 31 _ _ hu (by kernel_rfl)]
  have e0 : (Op.equalIn (d + 2) 9 (.string id) (.string id)).run Try.prog w = .ok true w := by rw [run_equalIn_string (P := Try.prog) w (d + 1) 9 id id Try.underlying9]; simp
  have e1 := eqArr 29 Try.underlying29 d ks h w
  have e2 : (Op.equalIn (d + 2) 28 (.int .u64 i) (.int .u64 i)).run Try.prog w = .ok true w := by rw [run_equalIn_int (P := Try.prog) w (d + 1) 28 .u64 .u64 i i Try.underlying28]; simp
  have e3 : (Op.equalIn (d + 2) 4 (.bool r) (.bool r)).run Try.prog w = .ok true w := by rw [run_equalIn_bool' (P := Try.prog) w (d + 1) 4 r r Try.underlying4]; simp
  simp only [Program.fieldsOf, Try.underlying31]
  exact eqFields_cons (by decide) (part31_0 id ks i r w h.1) e0 (eqFields_cons (by decide) (part31_1 id ks i r w h.1) e1 (eqFields_cons (by decide) (part31_2 id ks i r w h.1) e2 (eqFields_cons (by decide) (part31_3 id ks i r w h.1) e3 (by simp only [Op.eqFields, Sem.run_pure]))))
theorem equal_self {P : Program} {t : TypeId} {X : Array Value} {w : World} (h : (Op.equal t (.agg X) (.agg X)).run P w = .ok true w) :
    (binOp .eql t (.agg X) (.agg X)).run P w = .ok (.bool true) w ∧ (binOp .neq t (.agg X) (.agg X)).run P w = .ok (.bool false) w := by
  constructor <;> simp only [binOp, Sem.run_bind, h, Result.andThen_ok, Sem.run_pure, Bool.not_true]
theorem eql31 (id : ByteArray) (ks : List Value) (i : Int) (r : Bool) (h : Key ks) (w : World) :
    (binOp .eql 31 (.agg (bcells id ks i r).toArray) (.agg (bcells id ks i r).toArray)).run Try.prog w = .ok (.bool true) w :=
  (equal_self (eq31d 9997 id ks i r h w)).1
theorem neq31 (id : ByteArray) (ks : List Value) (i : Int) (r : Bool) (h : Key ks) (w : World) :
    (binOp .neq 31 (.agg (bcells id ks i r).toArray) (.agg (bcells id ks i r).toArray)).run Try.prog w = .ok (.bool false) w :=
  (equal_self (eq31d 9997 id ks i r h w)).2
theorem neq23 (ks : List Value) (h : Key ks) (w : World) : (binOp .neq 23 (.agg ks.toArray) (.agg ks.toArray)).run Try.prog w = .ok (.bool false) w :=
  (equal_self (eqArr 23 Try.underlying23 9998 ks h w)).2

theorem zkey_ok : Key zkey := ⟨by simp [zkey], fun v hv => ⟨0, by simpa [zkey] using hv, by decide⟩⟩
end Go.Proofs.Qxb6627777a
