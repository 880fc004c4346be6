/-
  No cell of these rows narrows 'for every input' (looked for: loops, veiled, ifaces, maps, wideKeys, modest, calm, conditions, laid).
  DERIVED. THE GIVEN ROWS OF THIS SEAT. 2 by the template 'for every input the law returns true; each argument reads behind the call as it read before'; 0 by the template 'total and deterministic' (their statements: Qxb6609332aTotals.lean).
  GIVEN WITH THE SEED: the statements are not yours to turn. If you find one false, say at which input.
  Laid BY PROGRAM, IN A SANDBOX (cutbox-rows.mjs): the forced cells as the released guide's own fill.sh prints them over the translation c5d432c2850706be… (all of the seat's roots in one cut). By AI agents, Wed Nov 11 2026. No macro, syntax, notation, axiom, sorry.
-/
import Derived.Test.Qxb6609332aChecked
import GoSem.Claim
import GoSem.ClaimJoined
import GoSem.ClaimMapViews
import Derived.JoinedTies
import Derived.KernelRfl
namespace Go.Proofs.Qxb6609332a
/- THE CELL 'sum', in the pinned program and in every row, IS THE sha256 OF THE DUMP (.gsa) THAT Qxb6609332aProg.lean LOADS. Nothing in Lean hashes anything: it is a label: what it is worth is what the hold of that sum in a sandbox is worth. -/
noncomputable def Try.pinned : Pinned := { name := "qxb6609332a", sum := "c5d432c2850706be4feda43c3be7cdb92159b768881547378a367aa9f8465eb6", checked := Try.checked }
namespace Rows
def none {H : Type} : Left H := { results := [], args := [] }

/-- 'zzlaws_aes_b1.FnAttributesFromWalkRoundTrip': WHATEVER THE INPUT: true; the input reads as it did. -/
def fnAttributesFromWalkRoundTripSpec : ChangeSpec := { name := "fnAttributesFromWalkRoundTrip", fn := fun _ => fun
  | [d] => { results := [.lit (.bool true)], args := [d] }
  | _ => none }
def fnAttributesFromWalkRoundTripRow : OpenClaim := { program := "qxb6609332a", sum := "c5d432c2850706be4feda43c3be7cdb92159b768881547378a367aa9f8465eb6", func := "example.com/avocet/avocet/zzlaws_aes_b1.FnAttributesFromWalkRoundTrip", spec := "fnAttributesFromWalkRoundTrip", unfollowed := true, recurses := true, apart := false }
def FnAttributesFromWalkRoundTripSaid : Prop := fnAttributesFromWalkRoundTripRow.holds Try.pinned (OpenSpec.ofChange fnAttributesFromWalkRoundTripSpec)

/-- ITS FALSE NEIGHBOUR: 'it returns false'. Refute it at one input. -/
def fnAttributesFromWalkRoundTripWrong : ChangeSpec := { name := "fnAttributesFromWalkRoundTrip", fn := fun _ => fun
  | [d] => { results := [.lit (.bool false)], args := [d] }
  | _ => none }
def FnAttributesFromWalkRoundTripWrongFalsely : Prop := fnAttributesFromWalkRoundTripRow.holds Try.pinned (OpenSpec.ofChange fnAttributesFromWalkRoundTripWrong)

/-- 'zzlaws_aes_b1.FnAttributesFromConcatenates': WHATEVER THE INPUT: true; the input reads as it did. -/
def fnAttributesFromConcatenatesSpec : ChangeSpec := { name := "fnAttributesFromConcatenates", fn := fun _ => fun
  | [d1, d2] => { results := [.lit (.bool true)], args := [d1, d2] }
  | _ => none }
def fnAttributesFromConcatenatesRow : OpenClaim := { program := "qxb6609332a", sum := "c5d432c2850706be4feda43c3be7cdb92159b768881547378a367aa9f8465eb6", func := "example.com/avocet/avocet/zzlaws_aes_b1.FnAttributesFromConcatenates", spec := "fnAttributesFromConcatenates", unfollowed := true, recurses := true, apart := false }
def FnAttributesFromConcatenatesSaid : Prop := fnAttributesFromConcatenatesRow.holds Try.pinned (OpenSpec.ofChange fnAttributesFromConcatenatesSpec)

/-- ITS FALSE NEIGHBOUR: 'it returns false'. Refute it at one input. -/
def fnAttributesFromConcatenatesWrong : ChangeSpec := { name := "fnAttributesFromConcatenates", fn := fun _ => fun
  | [d1, d2] => { results := [.lit (.bool false)], args := [d1, d2] }
  | _ => none }
def FnAttributesFromConcatenatesWrongFalsely : Prop := fnAttributesFromConcatenatesRow.holds Try.pinned (OpenSpec.ofChange fnAttributesFromConcatenatesWrong)

end Rows
end Go.Proofs.Qxb6609332a
