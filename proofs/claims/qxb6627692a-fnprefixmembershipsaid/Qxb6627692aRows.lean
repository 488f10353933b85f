/-
  No cell of these rows narrows 'for every input' (looked for: loops, veiled, ifaces, maps, wideKeys, modest, calm, conditions, laid).
  DERIVED. THE GIVEN ROWS OF THIS SEAT. 1 by the template 'for every input the law returns true; each argument reads behind the call as it read before'; 0 by the template 'total and deterministic' (their statements: Qxb6627692aTotals.lean).
  GIVEN WITH THE SEED: the statements are not yours to turn. If you find one false, say at which input.
  Laid BY PROGRAM, IN A SANDBOX (cutbox-rows.mjs): the forced cells as the released guide's own fill.sh prints them over the translation 95d8f4f1cf75b570… (all of the seat's roots in one cut). By AI agents, Wed Nov 11 2026. No macro, syntax, notation, axiom, sorry.
-/
import Derived.Test.Qxb6627692aChecked
import GoSem.Claim
import GoSem.ClaimJoined
import GoSem.ClaimMapViews
import Derived.JoinedTies
import Derived.KernelRfl
namespace Go.Proofs.Qxb6627692a
/- THE CELL 'sum', in the pinned program and in every row, IS THE sha256 OF THE DUMP (.gsa) THAT Qxb6627692aProg.lean LOADS. Nothing in Lean hashes anything: it is a label: what it is worth is what the hold of that sum in a sandbox is worth. -/
noncomputable def Try.pinned : Pinned := { name := "qxb6627692a", sum := "95d8f4f1cf75b570eeafacf955baee65e7e9b646dffb9bdd823582e237ccb2bd", checked := Try.checked }
namespace Rows
def none {H : Type} : Left H := { results := [], args := [] }

/-- 'zzlaws_root_b1.FnPrefixMembership': WHATEVER THE INPUT: true; the input reads as it did. -/
def fnPrefixMembershipSpec : ChangeSpec := { name := "fnPrefixMembership", fn := fun _ => fun
  | [d1, d2] => { results := [.lit (.bool true)], args := [d1, d2] }
  | _ => none }
def fnPrefixMembershipRow : OpenClaim := { program := "qxb6627692a", sum := "95d8f4f1cf75b570eeafacf955baee65e7e9b646dffb9bdd823582e237ccb2bd", func := "example.com/validora/validora/zzlaws_root_b1.FnPrefixMembership", spec := "fnPrefixMembership", apart := false }
def FnPrefixMembershipSaid : Prop := fnPrefixMembershipRow.holds Try.pinned (OpenSpec.ofChange fnPrefixMembershipSpec)

/-- ITS FALSE NEIGHBOUR: 'it returns false'. Refute it at one input. -/
def fnPrefixMembershipWrong : ChangeSpec := { name := "fnPrefixMembership", fn := fun _ => fun
  | [d1, d2] => { results := [.lit (.bool false)], args := [d1, d2] }
  | _ => none }
def FnPrefixMembershipWrongFalsely : Prop := fnPrefixMembershipRow.holds Try.pinned (OpenSpec.ofChange fnPrefixMembershipWrong)

end Rows
end Go.Proofs.Qxb6627692a
