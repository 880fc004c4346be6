/-
  No cell of these rows narrows 'for every input' (looked for: loops, veiled, ifaces, maps, wideKeys, modest, calm, conditions, laid).
  DERIVED. THE GIVEN ROWS OF THIS SEAT. 2 by the template 'for every input the law returns true; each argument reads behind the call as it read before'; 0 by the template 'total and deterministic' (their statements: Qxb6609201aTotals.lean).
  GIVEN WITH THE SEED: the statements are not yours to turn. If you find one false, say at which input.
  Laid BY PROGRAM, IN A SANDBOX (cutbox-rows.mjs): the forced cells as the released guide's own fill.sh prints them over the translation cbf9a5f1c73a7e97… (all of the seat's roots in one cut). By AI agents, Wed Nov 11 2026. No macro, syntax, notation, axiom, sorry.
-/
import Derived.Test.Qxb6609201aChecked
import GoSem.Claim
import GoSem.ClaimJoined
import GoSem.ClaimMapViews
import Derived.JoinedTies
import Derived.KernelRfl
namespace Go.Proofs.Qxb6609201a
/- THE CELL 'sum', in the pinned program and in every row, IS THE sha256 OF THE DUMP (.gsa) THAT Qxb6609201aProg.lean LOADS. Nothing in Lean hashes anything: it is a label: what it is worth is what the hold of that sum in a sandbox is worth. -/
noncomputable def Try.pinned : Pinned := { name := "qxb6609201a", sum := "cbf9a5f1c73a7e971a69a71b89750f8247a334342793dd517280833aa3c7d76a", checked := Try.checked }
namespace Rows
def none {H : Type} : Left H := { results := [], args := [] }

/-- 'zzlaws_internal_jsonvalue_b1.FnLookupFindsTheFirstMemberOfThatName': WHATEVER THE INPUT: true; the input reads as it did. -/
def fnLookupFindsTheFirstMemberOfThatNameSpec : ChangeSpec := { name := "fnLookupFindsTheFirstMemberOfThatName", fn := fun _ => fun
  | [d1, d2] => { results := [.lit (.bool true)], args := [d1, d2] }
  | _ => none }
def fnLookupFindsTheFirstMemberOfThatNameRow : OpenClaim := { program := "qxb6609201a", sum := "cbf9a5f1c73a7e971a69a71b89750f8247a334342793dd517280833aa3c7d76a", func := "example.com/ruleloom/ruleloom/zzlaws_internal_jsonvalue_b1.FnLookupFindsTheFirstMemberOfThatName", spec := "fnLookupFindsTheFirstMemberOfThatName", unfollowed := true, recurses := true, apart := false }
def FnLookupFindsTheFirstMemberOfThatNameSaid : Prop := fnLookupFindsTheFirstMemberOfThatNameRow.holds Try.pinned (OpenSpec.ofChange fnLookupFindsTheFirstMemberOfThatNameSpec)

/-- ITS FALSE NEIGHBOUR: 'it returns false'. Refute it at one input. -/
def fnLookupFindsTheFirstMemberOfThatNameWrong : ChangeSpec := { name := "fnLookupFindsTheFirstMemberOfThatName", fn := fun _ => fun
  | [d1, d2] => { results := [.lit (.bool false)], args := [d1, d2] }
  | _ => none }
def FnLookupFindsTheFirstMemberOfThatNameWrongFalsely : Prop := fnLookupFindsTheFirstMemberOfThatNameRow.holds Try.pinned (OpenSpec.ofChange fnLookupFindsTheFirstMemberOfThatNameWrong)

/-- 'zzlaws_internal_jsonvalue_b1.FnLookupFindsEveryMemberItHolds': WHATEVER THE INPUT: true; the input reads as it did. -/
def fnLookupFindsEveryMemberItHoldsSpec : ChangeSpec := { name := "fnLookupFindsEveryMemberItHolds", fn := fun _ => fun
  | [d] => { results := [.lit (.bool true)], args := [d] }
  | _ => none }
def fnLookupFindsEveryMemberItHoldsRow : OpenClaim := { program := "qxb6609201a", sum := "cbf9a5f1c73a7e971a69a71b89750f8247a334342793dd517280833aa3c7d76a", func := "example.com/ruleloom/ruleloom/zzlaws_internal_jsonvalue_b1.FnLookupFindsEveryMemberItHolds", spec := "fnLookupFindsEveryMemberItHolds", unfollowed := true, recurses := true, apart := false }
def FnLookupFindsEveryMemberItHoldsSaid : Prop := fnLookupFindsEveryMemberItHoldsRow.holds Try.pinned (OpenSpec.ofChange fnLookupFindsEveryMemberItHoldsSpec)

/-- ITS FALSE NEIGHBOUR: 'it returns false'. Refute it at one input. -/
def fnLookupFindsEveryMemberItHoldsWrong : ChangeSpec := { name := "fnLookupFindsEveryMemberItHolds", fn := fun _ => fun
  | [d] => { results := [.lit (.bool false)], args := [d] }
  | _ => none }
def FnLookupFindsEveryMemberItHoldsWrongFalsely : Prop := fnLookupFindsEveryMemberItHoldsRow.holds Try.pinned (OpenSpec.ofChange fnLookupFindsEveryMemberItHoldsWrong)

end Rows
end Go.Proofs.Qxb6609201a
