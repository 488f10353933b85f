import Derived.Test.Qxb6627820aFmtRows
import Derived.WalkKit
import Derived.WalkSpells
import Derived.WalkLawsBesides
import Derived.Below
import Derived.Deep.Cut
import Derived.Outline
import Derived.Deep.QuietTactic
import Derived.BigQuiet
import Derived.Stop.CallBack
import Derived.Stop.IfaceNil
import GoSem.ClaimData
import Derived.Lib.SliceRun
import Derived.Laws.AppendOwn
import Derived.Laws.CopyOwn
import Derived.OwnWalk
namespace Go.Proofs.Qxb6627820aFmt
open Go.RowKit
open Go.Extern.Stop Go.Stop Go.Extern

theorem Tryf.call9 (args : Array Value) (w : World) : (callFunc 9 args).run Tryf.prog w = ((FmtStop.errorf #[9, 30] #[25] args).run Tryf.prog w).andThen fun v w' => .ok (.value v) w' :=
  run_callFunc_extern Tryf.func9 (by kernel_rfl) (by kernel_rfl) (by kernel_rfl) (by kernel_rfl) args w
theorem Tryf.guard (name : String) (w : World) : (FmtStop.guard name).run Tryf.prog w = .ok () w := by kernel_rfl
theorem Tryf.fmt0 : FmtStop.printed? ⟨#[116, 119, 111, 32, 99, 111, 108, 117, 109, 110, 115, 32, 110, 97, 109, 101, 100, 32, 37, 113]⟩ 1 = some [(0, 113, false)] := by kernel_rfl
theorem Tryf.fmt0r (w : World) : (FmtDoors.printed ⟨#[116, 119, 111, 32, 99, 111, 108, 117, 109, 110, 115, 32, 110, 97, 109, 101, 100, 32, 37, 113]⟩ 1).run Tryf.prog w = .ok [(0, 113, false)] w := by kernel_rfl
def Tryf.shape9 : List UInt8 := [12, 6, 0, 0, 0, 0, 0, 0, 0, 115, 116, 114, 105, 110, 103]
theorem Tryf.op9 (name : String) (x : ByteArray) (w : World) : (FmtStop.operand name false 113 false (.iface 9 (.string x))).run Tryf.prog w = .ok (Tryf.shape9, FmtStop.pack x.data.toList) w := by kernel_rfl
theorem Tryf.op9w (name : String) (x : ByteArray) (w : World) : (FmtStop.operand name true 113 false (.iface 9 (.string x))).run Tryf.prog w = .ok (Tryf.shape9, FmtStop.pack x.data.toList) w := by kernel_rfl
theorem Tryf.ptr33 (w : World) : (FmtStop.ptrTo "errors.errorString").run Tryf.prog w = .ok 33 w := by kernel_rfl
theorem Tryf.elem33 (w : World) : (elemOf 33).run Tryf.prog w = .ok 35 w := by kernel_rfl
theorem Tryf.isError33' (w : World) : (FmtDoors.textMethod 33 "Error").run Tryf.prog w = .ok true w := by kernel_rfl

/-- the i-th of a list of strings -/
def st (xs : List ByteArray) (i : Nat) : ByteArray := xs.getD i ByteArray.empty

/-- the slice at 'a', of 'n' strings, holds 'xs' -/
def At (w : World) (a : Option Addr) (n : Nat) (xs : List ByteArray) : Prop :=
  xs.length = n ∧ ∀ i, i < n → ∃ b off, a = some ⟨b, off, none⟩ ∧ w.cell? ⟨b, off + i, none⟩ = some (.string (st xs i))

theorem At.spot {w : World} {a : Option Addr} {n : Nat} {xs : List ByteArray} (h : At w a n xs) (hn : 0 < n) :
    ∃ b off, a = some ⟨b, off, none⟩ ∧ ∀ i, i < n → w.cell? ⟨b, off + i, none⟩ = some (.string (st xs i)) := by
  obtain ⟨b, off, ha, _⟩ := h.2 0 hn
  refine ⟨b, off, ha, fun i hi => ?_⟩
  obtain ⟨b', off', ha', hc⟩ := h.2 i hi
  rw [ha] at ha'
  simp at ha'
  obtain ⟨rfl, rfl⟩ := ha'
  exact hc
theorem lt_cell {w : World} {a : Addr} {v : Value} (h : w.cell? a = some v) : a.block < w.heap.size := by
  rcases Nat.lt_or_ge a.block w.heap.size with hl | hl
  · exact hl
  · have hn : w.heap[a.block]? = none := Array.getElem?_eq_none hl
    simp [World.cell?, hn] at h
theorem At.below {w w' : World} {a : Option Addr} {n : Nat} {xs : List ByteArray} {B : Nat} (h : At w a n xs) (hb : Below B w w') (hB : B = w.heap.size) : At w' a n xs := by
  subst hB
  refine ⟨h.1, fun i hi => ?_⟩
  obtain ⟨b, off, ha, hc⟩ := h.2 i hi
  refine ⟨b, off, ha, ?_⟩
  have hlt := lt_cell hc
  rw [hb.cell hlt]
  exact hc
theorem At.nil {w : World} {n : Nat} {xs : List ByteArray} (h : At w none n xs) : n = 0 := by
  rcases Nat.eq_zero_or_pos n with h0 | h0
  · exact h0
  · obtain ⟨b, off, ha, _⟩ := h.2 0 h0
    simp at ha
theorem At.empty (w : World) (a : Option Addr) : At w a 0 [] := ⟨rfl, fun i hi => by omega⟩
theorem ret_bool {a b : Bool} (h : a = b) : Ending.returned (.bool a) = .returned (.bool b) := by rw [h]

/-- a bool comes back; if it is 'b', then 'p' -/
def Says (b : Bool) (p : Prop) (e : Ending) : Prop := ∃ r, e = .returned (.bool r) ∧ (r = b → p)
def Fits (n m : Nat) : Prop := n ≤ 1048576 ∧ m ≤ 1048576
theorem says_other {b r : Bool} {p : Prop} (h : r ≠ b) : Says b p (.returned (.bool r)) := ⟨r, rfl, fun e => absurd e h⟩
theorem says_it {b r : Bool} {p : Prop} (h : p) : Says b p (.returned (.bool r)) := ⟨r, rfl, fun _ => h⟩
end Go.Proofs.Qxb6627820aFmt
