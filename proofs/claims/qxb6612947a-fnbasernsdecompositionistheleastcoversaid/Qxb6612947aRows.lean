/-
  No cell of these rows narrows 'for every input' (looked for: loops, veiled, ifaces, maps, wideKeys, modest, calm, conditions, laid).
  DERIVED. THE GIVEN ROWS OF THIS SEAT. 2 by the template 'for every input the law returns true; each argument reads behind the call as it read before'; 0 by the template 'total and deterministic' (their statements: Qxb6612947aTotals.lean).
  GIVEN WITH THE SEED: the statements are not yours to turn. If you find one false, say at which input.
  Laid BY PROGRAM, IN A SANDBOX (cutbox-rows.mjs): the forced cells as the released guide's own fill.sh prints them over the translation 94451d4f1c769d20… (all of the seat's roots in one cut). By AI agents, Wed Nov 11 2026. No macro, syntax, notation, axiom, sorry.
-/
import Derived.Test.Qxb6612947aChecked
import GoSem.Claim
import GoSem.ClaimJoined
import GoSem.ClaimMapViews
import Derived.JoinedTies
import Derived.KernelRfl
namespace Go.Proofs.Qxb6612947a
/- THE CELL 'sum', in the pinned program and in every row, IS THE sha256 OF THE DUMP (.gsa) THAT Qxb6612947aProg.lean LOADS. Nothing in Lean hashes anything: it is a label: what it is worth is what the hold of that sum in a sandbox is worth. -/
noncomputable def Try.pinned : Pinned := { name := "qxb6612947a", sum := "94451d4f1c769d20256c5aa67f25815fa77ec77e154de368b9c365d5efae41d8", checked := Try.checked }
namespace Rows
def none {H : Type} : Left H := { results := [], args := [] }

/-- 'zzlaws_pkg_rlwe_b1.FnBaseRNSDecompositionIsTheLeastCover': WHATEVER THE INPUT: true; the input reads as it did. -/
def fnBaseRNSDecompositionIsTheLeastCoverSpec : ChangeSpec := { name := "fnBaseRNSDecompositionIsTheLeastCover", fn := fun _ => fun
  | [d1, d2] => { results := [.lit (.bool true)], args := [d1, d2] }
  | _ => none }
def fnBaseRNSDecompositionIsTheLeastCoverRow : OpenClaim := { program := "qxb6612947a", sum := "94451d4f1c769d20256c5aa67f25815fa77ec77e154de368b9c365d5efae41d8", func := "example.com/nuthatch/nuthatch/zzlaws_pkg_rlwe_b1.FnBaseRNSDecompositionIsTheLeastCover", spec := "fnBaseRNSDecompositionIsTheLeastCover", apart := false }
def FnBaseRNSDecompositionIsTheLeastCoverSaid : Prop := fnBaseRNSDecompositionIsTheLeastCoverRow.holds Try.pinned (OpenSpec.ofChange fnBaseRNSDecompositionIsTheLeastCoverSpec)

/-- ITS FALSE NEIGHBOUR: 'it returns false'. Refute it at one input. -/
def fnBaseRNSDecompositionIsTheLeastCoverWrong : ChangeSpec := { name := "fnBaseRNSDecompositionIsTheLeastCover", fn := fun _ => fun
  | [d1, d2] => { results := [.lit (.bool false)], args := [d1, d2] }
  | _ => none }
def FnBaseRNSDecompositionIsTheLeastCoverWrongFalsely : Prop := fnBaseRNSDecompositionIsTheLeastCoverRow.holds Try.pinned (OpenSpec.ofChange fnBaseRNSDecompositionIsTheLeastCoverWrong)

/-- 'zzlaws_pkg_rlwe_b1.FnBaseRNSDecompositionGrowsAtEachFullGroup': WHATEVER THE INPUT: true; the input reads as it did. -/
def fnBaseRNSDecompositionGrowsAtEachFullGroupSpec : ChangeSpec := { name := "fnBaseRNSDecompositionGrowsAtEachFullGroup", fn := fun _ => fun
  | [d1, d2] => { results := [.lit (.bool true)], args := [d1, d2] }
  | _ => none }
def fnBaseRNSDecompositionGrowsAtEachFullGroupRow : OpenClaim := { program := "qxb6612947a", sum := "94451d4f1c769d20256c5aa67f25815fa77ec77e154de368b9c365d5efae41d8", func := "example.com/nuthatch/nuthatch/zzlaws_pkg_rlwe_b1.FnBaseRNSDecompositionGrowsAtEachFullGroup", spec := "fnBaseRNSDecompositionGrowsAtEachFullGroup", apart := false }
def FnBaseRNSDecompositionGrowsAtEachFullGroupSaid : Prop := fnBaseRNSDecompositionGrowsAtEachFullGroupRow.holds Try.pinned (OpenSpec.ofChange fnBaseRNSDecompositionGrowsAtEachFullGroupSpec)

/-- ITS FALSE NEIGHBOUR: 'it returns false'. Refute it at one input. -/
def fnBaseRNSDecompositionGrowsAtEachFullGroupWrong : ChangeSpec := { name := "fnBaseRNSDecompositionGrowsAtEachFullGroup", fn := fun _ => fun
  | [d1, d2] => { results := [.lit (.bool false)], args := [d1, d2] }
  | _ => none }
def FnBaseRNSDecompositionGrowsAtEachFullGroupWrongFalsely : Prop := fnBaseRNSDecompositionGrowsAtEachFullGroupRow.holds Try.pinned (OpenSpec.ofChange fnBaseRNSDecompositionGrowsAtEachFullGroupWrong)

end Rows
end Go.Proofs.Qxb6612947a
