/-
  A proof of 'Rows.FnBaseRNSDecompositionIsTheLeastCoverSaid' (function 3 of the dump): the walk and the plain law by hand, the row's step by the kit's shell.
-/
import Derived.Test.Qxb6612947aRows
import Derived.WalkKit
import Derived.ProofKit
import Derived.OpenShut
import Derived.ShutString
namespace Go.Proofs.Qxb6612947a.fnBaseRNSDecompositionIsTheLeastCover
open Go.ChangeShapes Go.WideShapes Go.ChangeAt Go.RowKit
open Go.ChangeMaps (open_string shut_string)
set_option linter.unusedVariables false

theorem own : ownKnob Try.prog.godebug = none := by kernel_rfl

/-! ### The plain law: whole numbers alone -/
theorem plain (a0 a1 : Int) (h0 : -1 ≤ a0) (h2 : 0 ≤ a1) :
    0 ≤ (a0 + a1 + 1) / (a1 + 1) ∧ (a0 + a1 + 1) / (a1 + 1) ≤ a0 + 1
    ∧ a0 + 1 ≤ (a0 + a1 + 1) / (a1 + 1) * (a1 + 1) ∧ (a0 + a1 + 1) / (a1 + 1) * (a1 + 1) ≤ a0 + a1 + 1
    ∧ ((a0 + a1 + 1) / (a1 + 1) - 1) * (a1 + 1) < a0 + 1
    ∧ -(a1 + 1) ≤ ((a0 + a1 + 1) / (a1 + 1) - 1) * (a1 + 1)
    ∧ (a0 + a1 + 1 + a1 + 1) / (a1 + 1) = (a0 + a1 + 1) / (a1 + 1) + 1 := by
  have hg : 0 < a1 + 1 := by omega
  have e := Int.ediv_mul_add_emod (a0 + a1 + 1) (a1 + 1)
  have r0 := Int.emod_nonneg (a0 + a1 + 1) (b := a1 + 1) (by omega)
  have r1 := Int.emod_lt_of_pos (a0 + a1 + 1) hg
  have e2 : ((a0 + a1 + 1) / (a1 + 1) - 1) * (a1 + 1) = (a0 + a1 + 1) / (a1 + 1) * (a1 + 1) - (a1 + 1) := by
    rw [Int.sub_mul, Int.one_mul]
  have e3 : (a0 + a1 + 1 + a1 + 1) / (a1 + 1) = (a0 + a1 + 1) / (a1 + 1) + 1 := by
    rw [Int.add_assoc (a0 + a1 + 1) a1 1, Int.add_ediv_of_dvd_right ⟨1, by simp⟩, Int.ediv_self (by omega)]
  have hn : 0 ≤ (a0 + a1 + 1) / (a1 + 1) := Int.ediv_nonneg (by omega) (by omega)
  have hm : (a0 + a1 + 1) / (a1 + 1) < a0 + 2 := by
    refine Int.ediv_lt_of_lt_mul hg ?_
    have := Int.mul_nonneg (a := a0 + 1) (b := a1) (by omega) h2
    rw [Int.mul_add, Int.mul_one, Int.add_mul]
    rw [Int.add_mul] at this
    omega
  have hp := Int.mul_nonneg hn (by omega : 0 ≤ a1 + 1)
  exact ⟨hn, by omega, by omega, by omega, by omega, by omega, e3⟩

/-! ### The walk, a theorem a way -/
set_option maxHeartbeats 400000 in
theorem walk_out (a0 : Int) (a1 : Int) (w : World) (h : a0 < -1 ∨ 536870912 < a0 ∨ 536870912 < a1) :
    Calls Try.prog 3 #[.int .i64 a0, .int .i64 a1] w fun e w' => e = .returned (.bool true) ∧ Grown w w' := by
  by_cases c0 : a0 < -1
  · go_enter Try.func3, Try.ntmps3
    go_wp2
    go_ret
    exact ⟨rfl, Grown.refl _⟩
  · by_cases c1 : 536870912 < a0
    · go_enter Try.func3, Try.ntmps3
      go_wp2
      go_ret
      exact ⟨rfl, Grown.refl _⟩
    · have c2 : 536870912 < a1 := by omega
      go_enter Try.func3, Try.ntmps3
      go_wp2
      go_ret
      exact ⟨rfl, Grown.refl _⟩
set_option maxHeartbeats 400000 in
theorem walk_neg (a0 : Int) (a1 : Int) (w : World)
   (h0 : -1 ≤ a0) (h1 : a0 ≤ 536870912) (h2 : a1 < 0) :
    Calls Try.prog 3 #[.int .i64 a0, .int .i64 a1] w fun e w' => e = .returned (.bool true) ∧ Grown w w' := by
  go_enter Try.func3, Try.ntmps3
  go_wp2
  go_ret
  exact ⟨rfl, by repeat (first | exact Grown.refl _ | apply Grown.drew | apply Grown.alloc)⟩
set_option maxHeartbeats 400000 in
theorem walk_pos (a0 : Int) (a1 : Int) (w : World)
   (h0 : -1 ≤ a0) (h1 : a0 ≤ 536870912) (h2 : 0 ≤ a1) (h3 : a1 ≤ 536870912) :
    Calls Try.prog 3 #[.int .i64 a0, .int .i64 a1] w fun e w' => e = .returned (.bool true) ∧ Grown w w' := by
  obtain ⟨q1, q2, q3, q4, q5, q6, q7⟩ := plain a0 a1 h0 h2
  have q8 : ((a0 + a1 + 1 + a1 + 1) / (a1 + 1) == (a0 + a1 + 1) / (a1 + 1) + 1) = true := by rw [q7]; simp
  clear q7
  by_cases hd : 0 < (a0 + a1 + 1) / (a1 + 1)
  · go_enter Try.func3, Try.ntmps3
    go_wp2
    go_ret
    exact ⟨rfl, by repeat (first | exact Grown.refl _ | apply Grown.drew | apply Grown.alloc)⟩
  · go_enter Try.func3, Try.ntmps3
    go_wp2
    go_ret
    exact ⟨rfl, by repeat (first | exact Grown.refl _ | apply Grown.drew | apply Grown.alloc)⟩
theorem walk (a0 : Int) (a1 : Int) (w0 : (Lit.int .i64 a0).wf = true) (w1 : (Lit.int .i64 a1).wf = true) (w : World) :
    Calls Try.prog 3 #[.int .i64 a0, .int .i64 a1] w fun e w' => e = .returned (.bool true) ∧ Grown w w' := by
  by_cases h : a0 < -1 ∨ 536870912 < a0 ∨ 536870912 < a1
  · exact walk_out a0 a1 w h
  · by_cases h2 : a1 < 0
    · exact walk_neg a0 a1 w (by omega) (by omega) h2
    · exact walk_pos a0 a1 w (by omega) (by omega) (by omega) (by omega)

/-! ### The row's step (the kit's template at this function) -/
set_option maxRecDepth 100000 in
theorem lifted (os : Os) (started : os.Started) (H : Type) (enc : TypeId × Value → H) :
    ReturnsInHanded {} Try.checked os 3 .any (Rows.fnBaseRNSDecompositionIsTheLeastCoverSpec.pre6 enc Try.prog Try.f3 Rows.fnBaseRNSDecompositionIsTheLeastCoverRow.domain false) (Rows.fnBaseRNSDecompositionIsTheLeastCoverSpec.post enc Try.prog Try.f3 false true false false) := by
  refine returnsInHanded_of_change (C := Try.checked) own started (by kernel_rfl) Try.func3
    (ChangeSpec.witness6 (enc := enc) (C := Try.checked) false ⟨#[], #[.int .i64 0, .int .i64 0], []⟩ 8 (by kernel_rfl) (by kernel_rfl) (by kernel_rfl) (by kernel_rfl)) ?_
  intro W base args ds gs before hval0 hW hcnd _
  have hval : ∀ (j : Nat) t v, Try.f3.params[j]? = some t → args[j]? = some v → Value.okWide Try.prog W .any base t v := hval0
  have hW' := hW
  obtain ⟨p, q, hA0, hV, rfl, hfz, hnd⟩ := hW
  have hA : DataW.TrodAll enc Try.prog W 0 (fun _ => true) true Try.f3.params.toList args.toList ds p := hA0
  rw [Try.params3] at hA hval
  obtain ⟨v0, vs0, d0, ds0, p0, q0, hargs, rfl, rfl, h0, r0⟩ := trodAll_cons hA
  obtain ⟨v1, vs1, d1, ds1, p1, q1, rfl, rfl, rfl, h1, r1⟩ := trodAll_cons r0
  obtain ⟨rfl, rfl, rfl⟩ := trodAll_nil r1
  obtain rfl : args = #[v0, v1] := by cases args; simp_all
  obtain ⟨rfl, rfl⟩ := trodVars_none hV
  obtain ⟨a0, rfl, rfl, rfl, w0⟩ := open_int Try.underlying3 (hval 0 3 v0 rfl rfl) h0
  obtain ⟨a1, rfl, rfl, rfl, w1⟩ := open_int Try.underlying3 (hval 1 3 v1 rfl rfl) h1
  clear hA0 hval0
  simp only [List.append_nil] at hW'
  refine (walk a0 a1 w0 w1 W).mono fun e W' ⟨he, hg⟩ => ?_
  subst he
  exact ⟨_, rfl, post_of_same (pa := []) (pv := []) hW' (fun _ _ _ => (trodAll_cons_mk (shut_bool Try.underlying4 _) trodAll_mk0)) (fun sp _ => (trodAll_cons_mk (shut_int Try.underlying3 w0) (trodAll_cons_mk (shut_int Try.underlying3 w1) trodAll_mk0))) (fun _ _ => rfl) rfl
    (hg.frame _) hg.2.1 (ok_one (by kernel_rfl) rfl (okWide_bool_mk Try.underlying4 _))⟩

theorem over : Rows.fnBaseRNSDecompositionIsTheLeastCoverRow.holds Try.pinned (OpenSpec.ofChange Rows.fnBaseRNSDecompositionIsTheLeastCoverSpec) :=
  OpenClaim.holds_of_wide 3 Try.f3 rfl rfl rfl rfl rfl rfl rfl ⟨rfl, rfl, rfl, rfl, rfl⟩ rfl rfl rfl rfl rfl (by kernel_rfl) Try.func3 (by kernel_rfl)
    (of_decide_eq_true (by kernel_rfl)) (by unfold Func.isWrapper; first | (rw [if_pos (by decide +kernel)]; kernel_rfl) | (rw [if_neg (by decide +kernel)]; exact ⟨rfl, rfl⟩))
    (fun os started H enc _ => lifted os started H enc)

/-- ████ THE STATEMENT ████ -/
theorem proved : Rows.FnBaseRNSDecompositionIsTheLeastCoverSaid :=
  over
end Go.Proofs.Qxb6612947a.fnBaseRNSDecompositionIsTheLeastCover
