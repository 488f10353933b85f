/-
  No cell of these rows narrows 'for every input' (looked for: loops, veiled, ifaces, maps, wideKeys, modest, calm, conditions, laid).
  DERIVED. THE GIVEN ROWS OF THIS SEAT. 2 by the template 'for every input the law returns true; each argument reads behind the call as it read before'; 0 by the template 'total and deterministic' (their statements: Qxb6627777aTotals.lean).
  GIVEN WITH THE SEED: the statements are not yours to turn. If you find one false, say at which input.
  Laid BY PROGRAM, IN A SANDBOX (cutbox-rows.mjs): the forced cells as the released guide's own fill.sh prints them over the translation f4b57eac94b71d09… (all of the seat's roots in one cut). By AI agents, Wed Nov 11 2026. No macro, syntax, notation, axiom, sorry.
-/
import Derived.Test.Qxb6627777aChecked
import GoSem.Claim
import GoSem.ClaimJoined
import GoSem.ClaimMapViews
import Derived.JoinedTies
import Derived.KernelRfl
namespace Go.Proofs.Qxb6627777a
/- THE CELL 'sum', in the pinned program and in every row, IS THE sha256 OF THE DUMP (.gsa) THAT Qxb6627777aProg.lean LOADS. Nothing in Lean hashes anything: it is a label: what it is worth is what the hold of that sum in a sandbox is worth. -/
noncomputable def Try.pinned : Pinned := { name := "qxb6627777a", sum := "f4b57eac94b71d09350b4dc18d47b005d0e9cdf24e2216b66e678bbe3bca2812", checked := Try.checked }
namespace Rows
def none {H : Type} : Left H := { results := [], args := [] }

/-- 'zzlaws_internal_registry_b1.FnLookupAfterEnrolOne': WHATEVER THE INPUT: true; the input reads as it did. -/
def fnLookupAfterEnrolOneSpec : ChangeSpec := { name := "fnLookupAfterEnrolOne", fn := fun _ => fun
  | [d1, d2, d3, d4, d5] => { results := [.lit (.bool true)], args := [d1, d2, d3, d4, d5] }
  | _ => none }
def fnLookupAfterEnrolOneRow : OpenClaim := { program := "qxb6627777a", sum := "f4b57eac94b71d09350b4dc18d47b005d0e9cdf24e2216b66e678bbe3bca2812", func := "example.com/keyquorum/keyquorum/zzlaws_internal_registry_b1.FnLookupAfterEnrolOne", spec := "fnLookupAfterEnrolOne", plainKeys := false, apart := false }
def FnLookupAfterEnrolOneSaid : Prop := fnLookupAfterEnrolOneRow.holds Try.pinned (OpenSpec.ofChange fnLookupAfterEnrolOneSpec)

/-- ITS FALSE NEIGHBOUR: 'it returns false'. Refute it at one input. -/
def fnLookupAfterEnrolOneWrong : ChangeSpec := { name := "fnLookupAfterEnrolOne", fn := fun _ => fun
  | [d1, d2, d3, d4, d5] => { results := [.lit (.bool false)], args := [d1, d2, d3, d4, d5] }
  | _ => none }
def FnLookupAfterEnrolOneWrongFalsely : Prop := fnLookupAfterEnrolOneRow.holds Try.pinned (OpenSpec.ofChange fnLookupAfterEnrolOneWrong)

/-- 'zzlaws_internal_registry_b1.FnLookupFindsNewestOfEvery': WHATEVER THE INPUT: true; the input reads as it did. -/
def fnLookupFindsNewestOfEverySpec : ChangeSpec := { name := "fnLookupFindsNewestOfEvery", fn := fun _ => fun
  | [d1, d2] => { results := [.lit (.bool true)], args := [d1, d2] }
  | _ => none }
def fnLookupFindsNewestOfEveryRow : OpenClaim := { program := "qxb6627777a", sum := "f4b57eac94b71d09350b4dc18d47b005d0e9cdf24e2216b66e678bbe3bca2812", func := "example.com/keyquorum/keyquorum/zzlaws_internal_registry_b1.FnLookupFindsNewestOfEvery", spec := "fnLookupFindsNewestOfEvery", plainKeys := false, apart := false }
def FnLookupFindsNewestOfEverySaid : Prop := fnLookupFindsNewestOfEveryRow.holds Try.pinned (OpenSpec.ofChange fnLookupFindsNewestOfEverySpec)

/-- ITS FALSE NEIGHBOUR: 'it returns false'. Refute it at one input. -/
def fnLookupFindsNewestOfEveryWrong : ChangeSpec := { name := "fnLookupFindsNewestOfEvery", fn := fun _ => fun
  | [d1, d2] => { results := [.lit (.bool false)], args := [d1, d2] }
  | _ => none }
def FnLookupFindsNewestOfEveryWrongFalsely : Prop := fnLookupFindsNewestOfEveryRow.holds Try.pinned (OpenSpec.ofChange fnLookupFindsNewestOfEveryWrong)

end Rows
end Go.Proofs.Qxb6627777a
