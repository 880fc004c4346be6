/-
  DERIVED. GIVEN WITH THE SEED: THE CARDS: each row of Qxb6609182aDoorRows.lean that lists a variable, with what it lists TIED to the program's text (the seventh form; the later family's looks); each row that meets fmt, with fmt's text TOLD by the authors' own Lean function (tested against real Go, not proved from fmt's source: count such statements apart). THE CARD IS WHAT COUNTS. Prove the row's statement (the work); the ties are given (Qxb6609182aDoorTie.lean); close each card by the builder's one call (the guide's Derived/Test/ToyasCard.lean, 'card_holds'). Laid BY PROGRAM, IN A SANDBOX (cutbox-door.mjs). By AI agents, Wed Nov 11 2026. No macro, syntax, notation, axiom, sorry.
-/
import Derived.Test.Qxb6609182aDoorRows
import GoSem.ClaimSeven
namespace Go.Proofs.Qxb6609182aDoor
namespace Rows

/-- THE TIED CARD OF 'zzlaws_root_b1.FnValidIsOneThroughEight'. -/
def fnValidIsOneThroughEightCard : Claim7 := { stood := { row := fnValidIsOneThroughEightRow, standIns := [], harness := (true, "c0919864888af6fa1a47dfc636c804933b0b729f39b647ec329c1b59af43dad7"), looks := false }, kinds := [], alts := [], laidByText := true, laidKinds := [.data], laidTests := true, laidLooks := .later }
def FnValidIsOneThroughEightCardSaid : Prop := Claim7.holds Tryd.pinned (.plain (OpenSpec.ofChange fnValidIsOneThroughEightSpec)) fnValidIsOneThroughEightCard

/-- THE TIED CARD OF 'zzlaws_root_b1.FnValidExactlyTheEightNamedKinds'. -/
def fnValidExactlyTheEightNamedKindsCard : Claim7 := { stood := { row := fnValidExactlyTheEightNamedKindsRow, standIns := [], harness := (true, "c0919864888af6fa1a47dfc636c804933b0b729f39b647ec329c1b59af43dad7"), looks := false }, kinds := [], alts := [], laidByText := true, laidKinds := [.data], laidTests := true, laidLooks := .later }
def FnValidExactlyTheEightNamedKindsCardSaid : Prop := Claim7.holds Tryd.pinned (.plain (OpenSpec.ofChange fnValidExactlyTheEightNamedKindsSpec)) fnValidExactlyTheEightNamedKindsCard
end Rows
end Go.Proofs.Qxb6609182aDoor
