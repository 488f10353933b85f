/-
  No cell of these rows narrows 'for every input' (looked for: loops, veiled, ifaces, maps, wideKeys, modest, calm, conditions, laid).
  DERIVED. THE GIVEN ROWS OF THIS SEAT. 2 by the template 'for every input the law returns true; each argument reads behind the call as it read before'; 0 by the template 'total and deterministic' (their statements: Qxb6627745aTotals.lean).
  GIVEN WITH THE SEED: the statements are not yours to turn. If you find one false, say at which input.
  Laid BY PROGRAM, IN A SANDBOX (cutbox-rows.mjs): the forced cells as the released guide's own fill.sh prints them over the translation 616b74a6dc8f3033… (all of the seat's roots in one cut). By AI agents, Wed Nov 11 2026. No macro, syntax, notation, axiom, sorry.
-/
import Derived.Test.Qxb6627745aChecked
import GoSem.Claim
import GoSem.ClaimJoined
import GoSem.ClaimMapViews
import Derived.JoinedTies
import Derived.KernelRfl
namespace Go.Proofs.Qxb6627745a
/- THE CELL 'sum', in the pinned program and in every row, IS THE sha256 OF THE DUMP (.gsa) THAT Qxb6627745aProg.lean LOADS. Nothing in Lean hashes anything: it is a label: what it is worth is what the hold of that sum in a sandbox is worth. -/
noncomputable def Try.pinned : Pinned := { name := "qxb6627745a", sum := "616b74a6dc8f3033dd97ef4fd1376c1716eb67cba54ed93c5063e6c0f17b6ee2", checked := Try.checked }
namespace Rows
def none {H : Type} : Left H := { results := [], args := [] }

/-- 'zzlaws_internal_git_b1.FnIsCommitIDCutAtAnyPlace': WHATEVER THE INPUT: true; the input reads as it did. -/
def fnIsCommitIDCutAtAnyPlaceSpec : ChangeSpec := { name := "fnIsCommitIDCutAtAnyPlace", fn := fun _ => fun
  | [d1, d2] => { results := [.lit (.bool true)], args := [d1, d2] }
  | _ => none }
def fnIsCommitIDCutAtAnyPlaceRow : OpenClaim := { program := "qxb6627745a", sum := "616b74a6dc8f3033dd97ef4fd1376c1716eb67cba54ed93c5063e6c0f17b6ee2", func := "example.com/kitbag/kitbag/zzlaws_internal_git_b1.FnIsCommitIDCutAtAnyPlace", spec := "fnIsCommitIDCutAtAnyPlace", apart := false }
def FnIsCommitIDCutAtAnyPlaceSaid : Prop := fnIsCommitIDCutAtAnyPlaceRow.holds Try.pinned (OpenSpec.ofChange fnIsCommitIDCutAtAnyPlaceSpec)

/-- ITS FALSE NEIGHBOUR: 'it returns false'. Refute it at one input. -/
def fnIsCommitIDCutAtAnyPlaceWrong : ChangeSpec := { name := "fnIsCommitIDCutAtAnyPlace", fn := fun _ => fun
  | [d1, d2] => { results := [.lit (.bool false)], args := [d1, d2] }
  | _ => none }
def FnIsCommitIDCutAtAnyPlaceWrongFalsely : Prop := fnIsCommitIDCutAtAnyPlaceRow.holds Try.pinned (OpenSpec.ofChange fnIsCommitIDCutAtAnyPlaceWrong)

/-- 'zzlaws_internal_git_b1.FnIsCommitIDOneByteAtAnyPlace': WHATEVER THE INPUT: true; the input reads as it did. -/
def fnIsCommitIDOneByteAtAnyPlaceSpec : ChangeSpec := { name := "fnIsCommitIDOneByteAtAnyPlace", fn := fun _ => fun
  | [d1, d2, d3] => { results := [.lit (.bool true)], args := [d1, d2, d3] }
  | _ => none }
def fnIsCommitIDOneByteAtAnyPlaceRow : OpenClaim := { program := "qxb6627745a", sum := "616b74a6dc8f3033dd97ef4fd1376c1716eb67cba54ed93c5063e6c0f17b6ee2", func := "example.com/kitbag/kitbag/zzlaws_internal_git_b1.FnIsCommitIDOneByteAtAnyPlace", spec := "fnIsCommitIDOneByteAtAnyPlace", apart := false }
def FnIsCommitIDOneByteAtAnyPlaceSaid : Prop := fnIsCommitIDOneByteAtAnyPlaceRow.holds Try.pinned (OpenSpec.ofChange fnIsCommitIDOneByteAtAnyPlaceSpec)

/-- ITS FALSE NEIGHBOUR: 'it returns false'. Refute it at one input. -/
def fnIsCommitIDOneByteAtAnyPlaceWrong : ChangeSpec := { name := "fnIsCommitIDOneByteAtAnyPlace", fn := fun _ => fun
  | [d1, d2, d3] => { results := [.lit (.bool false)], args := [d1, d2, d3] }
  | _ => none }
def FnIsCommitIDOneByteAtAnyPlaceWrongFalsely : Prop := fnIsCommitIDOneByteAtAnyPlaceRow.holds Try.pinned (OpenSpec.ofChange fnIsCommitIDOneByteAtAnyPlaceWrong)

end Rows
end Go.Proofs.Qxb6627745a
