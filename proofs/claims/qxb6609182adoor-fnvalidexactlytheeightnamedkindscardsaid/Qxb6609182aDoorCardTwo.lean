/-
  Seat b6609182aD: the tied card of 'fnValidExactlyTheEightNamedKinds': the row (proved) and the given tie, closed by the builder.
-/
import Derived.Test.Qxb6609182aDoorProofs
import Derived.Test.Qxb6609182aDoorTie
import Derived.Test.Qxb6609182aDoorCards
import Derived.SevenTiedAt
namespace Go.Proofs.Qxb6609182aDoor
open Go
theorem fnValidExactlyTheEightNamedKinds_card : Rows.FnValidExactlyTheEightNamedKindsCardSaid :=
  Claim7.holds_tied_plain_at .later [] [.data] true Rows.fnValidExactlyTheEightNamedKindsCard.stood.harness false
    fnValidExactlyTheEightNamedKinds_holds (fun _ h => by cases h) (by kernel_rfl) (fun _ h => by cases h) fnValidExactlyTheEightNamedKinds_row_tie rfl ⟨rfl, rfl⟩ (by kernel_rfl) rfl
    (fun f fn hf hfn => by
      obtain rfl : f = 4 := Option.some.inj ((show Tryd.prog.funcNamed Rows.fnValidExactlyTheEightNamedKindsRow.func = some 4 by kernel_rfl).symm.trans hf) |>.symm
      obtain rfl : fn = Tryd.f4 := (Option.some.inj (Tryd.func4.symm.trans hfn)).symm
      exact ⟨by kernel_rfl, fun j t ht => by
        rw [Tryd.params4] at ht
        simp at ht⟩)
    (by kernel_rfl)
end Go.Proofs.Qxb6609182aDoor
