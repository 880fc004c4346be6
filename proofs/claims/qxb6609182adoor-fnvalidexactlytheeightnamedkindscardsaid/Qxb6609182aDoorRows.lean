/-
  NARROWER THAN 'FOR EVERY INPUT', by the rows' own cells (each row's printed sentence says how): FnValidIsOneThroughEight: laid · FnValidExactlyTheEightNamedKinds: laid.
  DERIVED. THE GIVEN ROWS OF THIS SEAT. 2 by the template 'for every input the law returns true; each argument reads behind the call as it read before'; 0 by the template 'total and deterministic' (their statements: Qxb6609182aDoorTotals.lean).
  GIVEN WITH THE SEED: the statements are not yours to turn. If you find one false, say at which input.
  Laid BY PROGRAM, IN A SANDBOX (cutbox-rows.mjs): the forced cells as the released guide's own fill.sh prints them over the translation 5a23c65ac03f5261… (all of the seat's roots in one cut). By AI agents, Wed Nov 11 2026. No macro, syntax, notation, axiom, sorry.
-/
import Derived.Test.Qxb6609182aDoorChecked
import GoSem.Claim
import GoSem.ClaimJoined
import GoSem.ClaimMapViews
import Derived.JoinedTies
import Derived.KernelRfl
namespace Go.Proofs.Qxb6609182aDoor
/- THE CELL 'sum', in the pinned program and in every row, IS THE sha256 OF THE DUMP (.gsa) THAT Qxb6609182aDoorProg.lean LOADS. Nothing in Lean hashes anything: it is a label: what it is worth is what the hold of that sum in a sandbox is worth. -/
noncomputable def Tryd.pinned : Pinned := { name := "qxb6609182adoor", sum := "5a23c65ac03f5261a0cd6ef96683f96c36f40df14f7c780a51ee724f99eb0e6d", checked := Tryd.checked }
namespace Rows
def none {H : Type} : Left H := { results := [], args := [] }

/- WHAT THE LISTED PACKAGE-LEVEL VARIABLES READ AS WHEN THE CALL BEGINS. Each datum BY PROGRAM (the guide's laid-datum.mjs) off the statement by which the dump's own 'gosem.cut.vars' lays the variable. In a bare row this is a premise. The card (Qxb6609182aDoorCards.lean) ties it to the program's text. -/
def laid_example_com_oarlock_oarlock_kindNames {H : Type} : DataW H := .agg [.lit (.string []), .lit (.string [118, 111, 116, 101]), .lit (.string [118, 111, 116, 101, 45, 114, 101, 115, 112, 111, 110, 115, 101]), .lit (.string [97, 112, 112, 101, 110, 100]), .lit (.string [97, 112, 112, 101, 110, 100, 45, 114, 101, 115, 112, 111, 110, 115, 101]), .lit (.string [112, 114, 101, 45, 118, 111, 116, 101]), .lit (.string [112, 114, 101, 45, 118, 111, 116, 101, 45, 114, 101, 115, 112, 111, 110, 115, 101]), .lit (.string [115, 110, 97, 112, 115, 104, 111, 116]), .lit (.string [116, 105, 109, 101, 111, 117, 116, 45, 110, 111, 119])]

/-- 'zzlaws_root_b1.FnValidIsOneThroughEight': WHATEVER THE INPUT: true; the input reads as it did. -/
def fnValidIsOneThroughEightSpec : ChangeSpec := { name := "fnValidIsOneThroughEight", vars := ["example.com/oarlock/oarlock.kindNames"], fn := fun _ => fun
  | [d, g1] => { results := [.lit (.bool true)], args := [d], vars := [g1] }
  | _ => none }
def fnValidIsOneThroughEightRow : OpenClaim := { program := "qxb6609182adoor", sum := "5a23c65ac03f5261a0cd6ef96683f96c36f40df14f7c780a51ee724f99eb0e6d", func := "example.com/oarlock/oarlock/zzlaws_root_b1.FnValidIsOneThroughEight", spec := "fnValidIsOneThroughEight", named := ["example.com/oarlock/oarlock.kindNames"], apart := false, laid := [("example.com/oarlock/oarlock.kindNames", laid_example_com_oarlock_oarlock_kindNames)] }
def FnValidIsOneThroughEightSaid : Prop := fnValidIsOneThroughEightRow.holds Tryd.pinned (OpenSpec.ofChange fnValidIsOneThroughEightSpec)

/-- ITS FALSE NEIGHBOUR: 'it returns false'. Refute it at one input. -/
def fnValidIsOneThroughEightWrong : ChangeSpec := { name := "fnValidIsOneThroughEight", vars := ["example.com/oarlock/oarlock.kindNames"], fn := fun _ => fun
  | [d, g1] => { results := [.lit (.bool false)], args := [d], vars := [g1] }
  | _ => none }
def FnValidIsOneThroughEightWrongFalsely : Prop := fnValidIsOneThroughEightRow.holds Tryd.pinned (OpenSpec.ofChange fnValidIsOneThroughEightWrong)

/-- 'zzlaws_root_b1.FnValidExactlyTheEightNamedKinds': WHATEVER THE INPUT: true; the input reads as it did. -/
def fnValidExactlyTheEightNamedKindsSpec : ChangeSpec := { name := "fnValidExactlyTheEightNamedKinds", vars := ["example.com/oarlock/oarlock.kindNames"], fn := fun _ => fun
  | [g1] => { results := [.lit (.bool true)], args := [], vars := [g1] }
  | _ => none }
def fnValidExactlyTheEightNamedKindsRow : OpenClaim := { program := "qxb6609182adoor", sum := "5a23c65ac03f5261a0cd6ef96683f96c36f40df14f7c780a51ee724f99eb0e6d", func := "example.com/oarlock/oarlock/zzlaws_root_b1.FnValidExactlyTheEightNamedKinds", spec := "fnValidExactlyTheEightNamedKinds", named := ["example.com/oarlock/oarlock.kindNames"], apart := false, laid := [("example.com/oarlock/oarlock.kindNames", laid_example_com_oarlock_oarlock_kindNames)] }
def FnValidExactlyTheEightNamedKindsSaid : Prop := fnValidExactlyTheEightNamedKindsRow.holds Tryd.pinned (OpenSpec.ofChange fnValidExactlyTheEightNamedKindsSpec)

/-- ITS FALSE NEIGHBOUR: 'it returns false'. Refute it at one input. -/
def fnValidExactlyTheEightNamedKindsWrong : ChangeSpec := { name := "fnValidExactlyTheEightNamedKinds", vars := ["example.com/oarlock/oarlock.kindNames"], fn := fun _ => fun
  | [g1] => { results := [.lit (.bool false)], args := [], vars := [g1] }
  | _ => none }
def FnValidExactlyTheEightNamedKindsWrongFalsely : Prop := fnValidExactlyTheEightNamedKindsRow.holds Tryd.pinned (OpenSpec.ofChange fnValidExactlyTheEightNamedKindsWrong)

end Rows
end Go.Proofs.Qxb6609182aDoor
