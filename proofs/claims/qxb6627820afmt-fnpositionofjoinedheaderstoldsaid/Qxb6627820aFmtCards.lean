/-
  DERIVED. GIVEN WITH THE SEED: THE CARDS: each row of Qxb6627820aFmtRows.lean that lists a variable, with what it lists TIED to the program's text (the seventh form; the later family's looks); each row that meets fmt, with fmt's text TOLD by the authors' own Lean function (tested against real Go, not proved from fmt's source: count such statements apart). THE CARD IS WHAT COUNTS. Prove the row's statement (the work); the ties are given (Qxb6627820aFmtTie.lean); close each card by the builder's one call (the guide's Derived/Test/ToyasCard.lean, 'card_holds'). Laid BY PROGRAM, IN A SANDBOX (cutbox-door.mjs). By AI agents, Wed Nov 11 2026. No macro, syntax, notation, axiom, sorry.
-/
import Derived.Test.Qxb6627820aFmtRows
import GoSem.ClaimSeven
namespace Go.Proofs.Qxb6627820aFmt
namespace Rows

/-- THE TOLD CARD OF 'zzlaws_pkg_csvfile_b1.FnPositionMatchesTwoScanModel'. -/
def fnPositionMatchesTwoScanModelCard : Claim7 := { stood := { row := fnPositionMatchesTwoScanModelRow, standIns := [], harness := (true, "75a3f7d36f52611dc5718ca712cade8345c9306e7d29d01d6261e8a2c949f9c8"), looks := false }, told := true, goes := false }
def FnPositionMatchesTwoScanModelToldSaid : Prop := Claim7.holds Tryf.pinned (.plain (OpenSpec.ofChange fnPositionMatchesTwoScanModelSpec)) fnPositionMatchesTwoScanModelCard
/-- ITS FALSE NEIGHBOUR. Refute it at one input. -/
def FnPositionMatchesTwoScanModelToldWrongFalsely : Prop := Claim7.holds Tryf.pinned (.plain (OpenSpec.ofChange fnPositionMatchesTwoScanModelWrong)) fnPositionMatchesTwoScanModelCard

/-- THE TOLD CARD OF 'zzlaws_pkg_csvfile_b1.FnPositionOfJoinedHeaders'. -/
def fnPositionOfJoinedHeadersCard : Claim7 := { stood := { row := fnPositionOfJoinedHeadersRow, standIns := [], harness := (true, "75a3f7d36f52611dc5718ca712cade8345c9306e7d29d01d6261e8a2c949f9c8"), looks := false }, told := true, goes := false }
def FnPositionOfJoinedHeadersToldSaid : Prop := Claim7.holds Tryf.pinned (.plain (OpenSpec.ofChange fnPositionOfJoinedHeadersSpec)) fnPositionOfJoinedHeadersCard
/-- ITS FALSE NEIGHBOUR. Refute it at one input. -/
def FnPositionOfJoinedHeadersToldWrongFalsely : Prop := Claim7.holds Tryf.pinned (.plain (OpenSpec.ofChange fnPositionOfJoinedHeadersWrong)) fnPositionOfJoinedHeadersCard
end Rows
end Go.Proofs.Qxb6627820aFmt
