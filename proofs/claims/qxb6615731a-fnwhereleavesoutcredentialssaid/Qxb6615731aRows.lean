/-
  No cell of these rows narrows 'for every input' (looked for: loops, veiled, ifaces, maps, wideKeys, modest, calm, conditions, laid).
  DERIVED. THE GIVEN ROWS OF THIS SEAT. 2 by the template 'for every input the law returns true; each argument reads behind the call as it read before'; 0 by the template 'total and deterministic' (their statements: Qxb6615731aTotals.lean).
  GIVEN WITH THE SEED: the statements are not yours to turn. If you find one false, say at which input.
  Laid BY PROGRAM, IN A SANDBOX (cutbox-rows.mjs): the forced cells as the released guide's own fill.sh prints them over the translation d25c1c1adab143f6… (all of the seat's roots in one cut). By AI agents, Wed Nov 11 2026. No macro, syntax, notation, axiom, sorry.
-/
import Derived.Test.Qxb6615731aChecked
import GoSem.Claim
import GoSem.ClaimJoined
import GoSem.ClaimMapViews
import Derived.JoinedTies
import Derived.KernelRfl
namespace Go.Proofs.Qxb6615731a
/- THE CELL 'sum', in the pinned program and in every row, IS THE sha256 OF THE DUMP (.gsa) THAT Qxb6615731aProg.lean LOADS. Nothing in Lean hashes anything: it is a label: what it is worth is what the hold of that sum in a sandbox is worth. -/
noncomputable def Try.pinned : Pinned := { name := "qxb6615731a", sum := "d25c1c1adab143f6d8864c72fb0cf6fa831d2cfae7eb6cef6b32df408be3e7e5", checked := Try.checked }
namespace Rows
def none {H : Type} : Left H := { results := [], args := [] }

/-- 'zzlaws_internal_dialect_b1.FnCeilDivNestedUnits': WHATEVER THE INPUT: true; the input reads as it did. -/
def fnCeilDivNestedUnitsSpec : ChangeSpec := { name := "fnCeilDivNestedUnits", fn := fun _ => fun
  | [d1, d2, d3] => { results := [.lit (.bool true)], args := [d1, d2, d3] }
  | _ => none }
def fnCeilDivNestedUnitsRow : OpenClaim := { program := "qxb6615731a", sum := "d25c1c1adab143f6d8864c72fb0cf6fa831d2cfae7eb6cef6b32df408be3e7e5", func := "example.com/lastledger/lastledger/zzlaws_internal_dialect_b1.FnCeilDivNestedUnits", spec := "fnCeilDivNestedUnits", apart := false }
def FnCeilDivNestedUnitsSaid : Prop := fnCeilDivNestedUnitsRow.holds Try.pinned (OpenSpec.ofChange fnCeilDivNestedUnitsSpec)

/-- ITS FALSE NEIGHBOUR: 'it returns false'. Refute it at one input. -/
def fnCeilDivNestedUnitsWrong : ChangeSpec := { name := "fnCeilDivNestedUnits", fn := fun _ => fun
  | [d1, d2, d3] => { results := [.lit (.bool false)], args := [d1, d2, d3] }
  | _ => none }
def FnCeilDivNestedUnitsWrongFalsely : Prop := fnCeilDivNestedUnitsRow.holds Try.pinned (OpenSpec.ofChange fnCeilDivNestedUnitsWrong)

/-- 'zzlaws_internal_dialect_b1.FnWhereLeavesOutCredentials': WHATEVER THE INPUT: true; the input reads as it did. -/
def fnWhereLeavesOutCredentialsSpec : ChangeSpec := { name := "fnWhereLeavesOutCredentials", fn := fun _ => fun
  | [d1, d2, d3, d4, d5, d6, d7] => { results := [.lit (.bool true)], args := [d1, d2, d3, d4, d5, d6, d7] }
  | _ => none }
def fnWhereLeavesOutCredentialsRow : OpenClaim := { program := "qxb6615731a", sum := "d25c1c1adab143f6d8864c72fb0cf6fa831d2cfae7eb6cef6b32df408be3e7e5", func := "example.com/lastledger/lastledger/zzlaws_internal_dialect_b1.FnWhereLeavesOutCredentials", spec := "fnWhereLeavesOutCredentials", apart := false }
def FnWhereLeavesOutCredentialsSaid : Prop := fnWhereLeavesOutCredentialsRow.holds Try.pinned (OpenSpec.ofChange fnWhereLeavesOutCredentialsSpec)

/-- ITS FALSE NEIGHBOUR: 'it returns false'. Refute it at one input. -/
def fnWhereLeavesOutCredentialsWrong : ChangeSpec := { name := "fnWhereLeavesOutCredentials", fn := fun _ => fun
  | [d1, d2, d3, d4, d5, d6, d7] => { results := [.lit (.bool false)], args := [d1, d2, d3, d4, d5, d6, d7] }
  | _ => none }
def FnWhereLeavesOutCredentialsWrongFalsely : Prop := fnWhereLeavesOutCredentialsRow.holds Try.pinned (OpenSpec.ofChange fnWhereLeavesOutCredentialsWrong)

end Rows
end Go.Proofs.Qxb6615731a
