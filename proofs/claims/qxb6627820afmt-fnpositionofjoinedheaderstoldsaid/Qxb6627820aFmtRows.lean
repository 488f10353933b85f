/-
  No cell of these rows narrows 'for every input' (looked for: loops, veiled, ifaces, maps, wideKeys, modest, calm, conditions, laid).
  DERIVED. THE GIVEN ROWS OF THIS SEAT. 2 by the template 'for every input the law returns true; each argument reads behind the call as it read before'; 0 by the template 'total and deterministic' (their statements: Qxb6627820aFmtTotals.lean).
  GIVEN WITH THE SEED: the statements are not yours to turn. If you find one false, say at which input.
  Laid BY PROGRAM, IN A SANDBOX (cutbox-rows.mjs): the forced cells as the released guide's own fill.sh prints them over the translation 5c48b439b50f325c… (all of the seat's roots in one cut). By AI agents, Wed Nov 11 2026. No macro, syntax, notation, axiom, sorry.
-/
import Derived.Test.Qxb6627820aFmtChecked
import GoSem.Claim
import GoSem.ClaimJoined
import GoSem.ClaimMapViews
import Derived.JoinedTies
import Derived.KernelRfl
namespace Go.Proofs.Qxb6627820aFmt
/- THE CELL 'sum', in the pinned program and in every row, IS THE sha256 OF THE DUMP (.gsa) THAT Qxb6627820aFmtProg.lean LOADS. Nothing in Lean hashes anything: it is a label: what it is worth is what the hold of that sum in a sandbox is worth. -/
noncomputable def Tryf.pinned : Pinned := { name := "qxb6627820afmt", sum := "5c48b439b50f325c2f94c9f56deea8e9f1e24036852ef7536dc34ee8f733a9f9", checked := Tryf.checked }
namespace Rows
def none {H : Type} : Left H := { results := [], args := [] }

/-- 'zzlaws_pkg_csvfile_b1.FnPositionMatchesTwoScanModel': WHATEVER THE INPUT: true; the input reads as it did. -/
def fnPositionMatchesTwoScanModelSpec : ChangeSpec := { name := "fnPositionMatchesTwoScanModel", fn := fun _ => fun
  | [d1, d2] => { results := [.lit (.bool true)], args := [d1, d2] }
  | _ => none }
def fnPositionMatchesTwoScanModelRow : OpenClaim := { program := "qxb6627820afmt", sum := "5c48b439b50f325c2f94c9f56deea8e9f1e24036852ef7536dc34ee8f733a9f9", func := "example.com/tuoguan/tuoguan/zzlaws_pkg_csvfile_b1.FnPositionMatchesTwoScanModel", spec := "fnPositionMatchesTwoScanModel", stops := ["fmt.errorf"], inPlace := ["fmt.errorf"], apart := false }
/-- NO THEOREM (fmt's text is open here; it may be false): for the released tool's asking of the row's closed facts alone. THE STATEMENT IS 'FnPositionMatchesTwoScanModelToldSaid' (Qxb6627820aFmtCards.lean). -/
def FnPositionMatchesTwoScanModelFormAsk : Prop := fnPositionMatchesTwoScanModelRow.holds Tryf.pinned (OpenSpec.ofChange fnPositionMatchesTwoScanModelSpec)

/-- ITS FALSE NEIGHBOUR: 'it returns false'. Refute it at one input. -/
def fnPositionMatchesTwoScanModelWrong : ChangeSpec := { name := "fnPositionMatchesTwoScanModel", fn := fun _ => fun
  | [d1, d2] => { results := [.lit (.bool false)], args := [d1, d2] }
  | _ => none }
def FnPositionMatchesTwoScanModelWrongFormAsk : Prop := fnPositionMatchesTwoScanModelRow.holds Tryf.pinned (OpenSpec.ofChange fnPositionMatchesTwoScanModelWrong)

/-- 'zzlaws_pkg_csvfile_b1.FnPositionOfJoinedHeaders': WHATEVER THE INPUT: true; the input reads as it did. -/
def fnPositionOfJoinedHeadersSpec : ChangeSpec := { name := "fnPositionOfJoinedHeaders", fn := fun _ => fun
  | [d1, d2, d3] => { results := [.lit (.bool true)], args := [d1, d2, d3] }
  | _ => none }
def fnPositionOfJoinedHeadersRow : OpenClaim := { program := "qxb6627820afmt", sum := "5c48b439b50f325c2f94c9f56deea8e9f1e24036852ef7536dc34ee8f733a9f9", func := "example.com/tuoguan/tuoguan/zzlaws_pkg_csvfile_b1.FnPositionOfJoinedHeaders", spec := "fnPositionOfJoinedHeaders", stops := ["fmt.errorf"], inPlace := ["fmt.errorf"], apart := false }
/-- NO THEOREM (fmt's text is open here; it may be false): for the released tool's asking of the row's closed facts alone. THE STATEMENT IS 'FnPositionOfJoinedHeadersToldSaid' (Qxb6627820aFmtCards.lean). -/
def FnPositionOfJoinedHeadersFormAsk : Prop := fnPositionOfJoinedHeadersRow.holds Tryf.pinned (OpenSpec.ofChange fnPositionOfJoinedHeadersSpec)

/-- ITS FALSE NEIGHBOUR: 'it returns false'. Refute it at one input. -/
def fnPositionOfJoinedHeadersWrong : ChangeSpec := { name := "fnPositionOfJoinedHeaders", fn := fun _ => fun
  | [d1, d2, d3] => { results := [.lit (.bool false)], args := [d1, d2, d3] }
  | _ => none }
def FnPositionOfJoinedHeadersWrongFormAsk : Prop := fnPositionOfJoinedHeadersRow.holds Tryf.pinned (OpenSpec.ofChange fnPositionOfJoinedHeadersWrong)

end Rows
end Go.Proofs.Qxb6627820aFmt
