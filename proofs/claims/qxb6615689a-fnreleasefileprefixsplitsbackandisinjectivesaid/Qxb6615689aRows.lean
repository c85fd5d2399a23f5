/-
  No cell of these rows narrows 'for every input' (looked for: loops, veiled, ifaces, maps, wideKeys, modest, calm, conditions, laid).
  DERIVED. THE GIVEN ROWS OF THIS SEAT. 3 by the template 'for every input the law returns true; each argument reads behind the call as it read before'; 0 by the template 'total and deterministic' (their statements: Qxb6615689aTotals.lean).
  GIVEN WITH THE SEED: the statements are not yours to turn. If you find one false, say at which input.
  Laid BY PROGRAM, IN A SANDBOX (cutbox-rows.mjs): the forced cells as the released guide's own fill.sh prints them over the translation 0697e244cb6913af… (all of the seat's roots in one cut). By AI agents, Wed Nov 11 2026. No macro, syntax, notation, axiom, sorry.
-/
import Derived.Test.Qxb6615689aChecked
import GoSem.Claim
import GoSem.ClaimJoined
import GoSem.ClaimMapViews
import Derived.JoinedTies
import Derived.KernelRfl
namespace Go.Proofs.Qxb6615689a
/- THE CELL 'sum', in the pinned program and in every row, IS THE sha256 OF THE DUMP (.gsa) THAT Qxb6615689aProg.lean LOADS. Nothing in Lean hashes anything: it is a label: what it is worth is what the hold of that sum in a sandbox is worth. -/
noncomputable def Try.pinned : Pinned := { name := "qxb6615689a", sum := "0697e244cb6913af99ade189a1bc72cae24c7acc888e876abfa3da911cb9faba", checked := Try.checked }
namespace Rows
def none {H : Type} : Left H := { results := [], args := [] }

/-- 'zzlaws_names_b1.FnReleaseFilePrefixSplitsBackAndIsInjective': WHATEVER THE INPUT: true; the input reads as it did. -/
def fnReleaseFilePrefixSplitsBackAndIsInjectiveSpec : ChangeSpec := { name := "fnReleaseFilePrefixSplitsBackAndIsInjective", fn := fun _ => fun
  | [d1, d2, d3, d4] => { results := [.lit (.bool true)], args := [d1, d2, d3, d4] }
  | _ => none }
def fnReleaseFilePrefixSplitsBackAndIsInjectiveRow : OpenClaim := { program := "qxb6615689a", sum := "0697e244cb6913af99ade189a1bc72cae24c7acc888e876abfa3da911cb9faba", func := "example.com/cairn/cairn/zzlaws_names_b1.FnReleaseFilePrefixSplitsBackAndIsInjective", spec := "fnReleaseFilePrefixSplitsBackAndIsInjective", apart := false }
def FnReleaseFilePrefixSplitsBackAndIsInjectiveSaid : Prop := fnReleaseFilePrefixSplitsBackAndIsInjectiveRow.holds Try.pinned (OpenSpec.ofChange fnReleaseFilePrefixSplitsBackAndIsInjectiveSpec)

/-- ITS FALSE NEIGHBOUR: 'it returns false'. Refute it at one input. -/
def fnReleaseFilePrefixSplitsBackAndIsInjectiveWrong : ChangeSpec := { name := "fnReleaseFilePrefixSplitsBackAndIsInjective", fn := fun _ => fun
  | [d1, d2, d3, d4] => { results := [.lit (.bool false)], args := [d1, d2, d3, d4] }
  | _ => none }
def FnReleaseFilePrefixSplitsBackAndIsInjectiveWrongFalsely : Prop := fnReleaseFilePrefixSplitsBackAndIsInjectiveRow.holds Try.pinned (OpenSpec.ofChange fnReleaseFilePrefixSplitsBackAndIsInjectiveWrong)

/-- 'zzlaws_names_b1.FnIsNumberPrependOneByte': WHATEVER THE INPUT: true; the input reads as it did. -/
def fnIsNumberPrependOneByteSpec : ChangeSpec := { name := "fnIsNumberPrependOneByte", fn := fun _ => fun
  | [d1, d2, d3] => { results := [.lit (.bool true)], args := [d1, d2, d3] }
  | _ => none }
def fnIsNumberPrependOneByteRow : OpenClaim := { program := "qxb6615689a", sum := "0697e244cb6913af99ade189a1bc72cae24c7acc888e876abfa3da911cb9faba", func := "example.com/cairn/cairn/zzlaws_names_b1.FnIsNumberPrependOneByte", spec := "fnIsNumberPrependOneByte", apart := false }
def FnIsNumberPrependOneByteSaid : Prop := fnIsNumberPrependOneByteRow.holds Try.pinned (OpenSpec.ofChange fnIsNumberPrependOneByteSpec)

/-- ITS FALSE NEIGHBOUR: 'it returns false'. Refute it at one input. -/
def fnIsNumberPrependOneByteWrong : ChangeSpec := { name := "fnIsNumberPrependOneByte", fn := fun _ => fun
  | [d1, d2, d3] => { results := [.lit (.bool false)], args := [d1, d2, d3] }
  | _ => none }
def FnIsNumberPrependOneByteWrongFalsely : Prop := fnIsNumberPrependOneByteRow.holds Try.pinned (OpenSpec.ofChange fnIsNumberPrependOneByteWrong)

/-- 'zzlaws_names_b1.FnIsNumberAppendOneByte': WHATEVER THE INPUT: true; the input reads as it did. -/
def fnIsNumberAppendOneByteSpec : ChangeSpec := { name := "fnIsNumberAppendOneByte", fn := fun _ => fun
  | [d1, d2] => { results := [.lit (.bool true)], args := [d1, d2] }
  | _ => none }
def fnIsNumberAppendOneByteRow : OpenClaim := { program := "qxb6615689a", sum := "0697e244cb6913af99ade189a1bc72cae24c7acc888e876abfa3da911cb9faba", func := "example.com/cairn/cairn/zzlaws_names_b1.FnIsNumberAppendOneByte", spec := "fnIsNumberAppendOneByte", apart := false }
def FnIsNumberAppendOneByteSaid : Prop := fnIsNumberAppendOneByteRow.holds Try.pinned (OpenSpec.ofChange fnIsNumberAppendOneByteSpec)

/-- ITS FALSE NEIGHBOUR: 'it returns false'. Refute it at one input. -/
def fnIsNumberAppendOneByteWrong : ChangeSpec := { name := "fnIsNumberAppendOneByte", fn := fun _ => fun
  | [d1, d2] => { results := [.lit (.bool false)], args := [d1, d2] }
  | _ => none }
def FnIsNumberAppendOneByteWrongFalsely : Prop := fnIsNumberAppendOneByteRow.holds Try.pinned (OpenSpec.ofChange fnIsNumberAppendOneByteWrong)

end Rows
end Go.Proofs.Qxb6615689a
