/-
  Seat b6609182aD: the tied card of 'fnValidIsOneThroughEight': the row (proved) and the given tie, closed by the builder.
-/
import Derived.Test.Qxb6609182aDoorProofs
import Derived.Test.Qxb6609182aDoorTie
import Derived.Test.Qxb6609182aDoorCards
import Derived.SevenTiedAt
namespace Go.Proofs.Qxb6609182aDoor
open Go
theorem fnValidIsOneThroughEight_card : Rows.FnValidIsOneThroughEightCardSaid :=
  Claim7.holds_tied_plain_at .later [] [.data] true Rows.fnValidIsOneThroughEightCard.stood.harness false
    fnValidIsOneThroughEight_holds (fun _ h => by cases h) (by kernel_rfl) (fun _ h => by cases h) fnValidIsOneThroughEight_row_tie rfl ⟨rfl, rfl⟩ (by kernel_rfl) rfl
    (fun f fn hf hfn => by
      obtain rfl : f = 3 := Option.some.inj ((show Tryd.prog.funcNamed Rows.fnValidIsOneThroughEightRow.func = some 3 by kernel_rfl).symm.trans hf) |>.symm
      obtain rfl : fn = Tryd.f3 := (Option.some.inj (Tryd.func3.symm.trans hfn)).symm
      exact ⟨by kernel_rfl, fun j t ht => by
        rw [Tryd.params3] at ht
        have hm : t ∈ [5] := by simpa using Array.mem_of_getElem? ht
        have hall : ([5].all fun u => !Tryd.prog.wantsStandIn u) = true := by kernel_rfl
        exact (show Tryd.prog.wantsStandIn t = false by simpa using List.all_eq_true.1 hall t hm)⟩)
    (by kernel_rfl)
end Go.Proofs.Qxb6609182aDoor
