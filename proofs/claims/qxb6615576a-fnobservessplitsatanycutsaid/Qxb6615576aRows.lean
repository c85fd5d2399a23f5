/-
  No cell of these rows narrows 'for every input' (looked for: loops, veiled, ifaces, maps, wideKeys, modest, calm, conditions, laid).
  DERIVED. THE GIVEN ROWS OF THIS SEAT. 1 by the template 'for every input the law returns true; each argument reads behind the call as it read before'; 0 by the template 'total and deterministic' (their statements: Qxb6615576aTotals.lean).
  GIVEN WITH THE SEED: the statements are not yours to turn. If you find one false, say at which input.
  Laid BY PROGRAM, IN A SANDBOX (cutbox-rows.mjs): the forced cells as the released guide's own fill.sh prints them over the translation 59267eb4d05cc934… (all of the seat's roots in one cut). By AI agents, Wed Nov 11 2026. No macro, syntax, notation, axiom, sorry.
-/
import Derived.Test.Qxb6615576aChecked
import GoSem.Claim
import GoSem.ClaimJoined
import GoSem.ClaimMapViews
import Derived.JoinedTies
import Derived.KernelRfl
namespace Go.Proofs.Qxb6615576a
/- THE CELL 'sum', in the pinned program and in every row, IS THE sha256 OF THE DUMP (.gsa) THAT Qxb6615576aProg.lean LOADS. Nothing in Lean hashes anything: it is a label: what it is worth is what the hold of that sum in a sandbox is worth. -/
noncomputable def Try.pinned : Pinned := { name := "qxb6615576a", sum := "59267eb4d05cc934274684d0926a639e025c1d1c359c6ad1dd9fbd22804f058c", checked := Try.checked }
namespace Rows
def none {H : Type} : Left H := { results := [], args := [] }

/-- 'zzlaws_internal_orset_b1.FnObservesSplitsAtAnyCut': WHATEVER THE INPUT: true; the input reads as it did. -/
def fnObservesSplitsAtAnyCutSpec : ChangeSpec := { name := "fnObservesSplitsAtAnyCut", fn := fun _ => fun
  | [d1, d2, d3, d4] => { results := [.lit (.bool true)], args := [d1, d2, d3, d4] }
  | _ => none }
def fnObservesSplitsAtAnyCutRow : OpenClaim := { program := "qxb6615576a", sum := "59267eb4d05cc934274684d0926a639e025c1d1c359c6ad1dd9fbd22804f058c", func := "example.com/dotwise/dotwise/zzlaws_internal_orset_b1.FnObservesSplitsAtAnyCut", spec := "fnObservesSplitsAtAnyCut", unfollowed := true, recurses := true, apart := false }
def FnObservesSplitsAtAnyCutSaid : Prop := fnObservesSplitsAtAnyCutRow.holds Try.pinned (OpenSpec.ofChange fnObservesSplitsAtAnyCutSpec)

/-- ITS FALSE NEIGHBOUR: 'it returns false'. Refute it at one input. -/
def fnObservesSplitsAtAnyCutWrong : ChangeSpec := { name := "fnObservesSplitsAtAnyCut", fn := fun _ => fun
  | [d1, d2, d3, d4] => { results := [.lit (.bool false)], args := [d1, d2, d3, d4] }
  | _ => none }
def FnObservesSplitsAtAnyCutWrongFalsely : Prop := fnObservesSplitsAtAnyCutRow.holds Try.pinned (OpenSpec.ofChange fnObservesSplitsAtAnyCutWrong)

end Rows
end Go.Proofs.Qxb6615576a
