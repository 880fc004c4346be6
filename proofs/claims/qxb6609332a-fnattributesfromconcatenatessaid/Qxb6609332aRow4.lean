/-
  Seat b6609332a: the second law's row.
-/
import Derived.Test.Qxb6609332aLaw4
namespace Go.Proofs.Qxb6609332a
open Go.ChangeShapes Go.WideShapes Go.ChangeAt Go.RowKit Go.Deep

set_option maxHeartbeats 800000 in
set_option maxRecDepth 100000 in
theorem lifted4 (os : Os) (started : os.Started) (H : Type) (enc : TypeId × Value → H) :
    ReturnsInHanded {} Try.checked os 4 .any (Rows.fnAttributesFromConcatenatesSpec.pre6 enc Try.prog Try.f4 Rows.fnAttributesFromConcatenatesRow.domain false) (Rows.fnAttributesFromConcatenatesSpec.post enc Try.prog Try.f4 false true false false) := by
  refine returnsInHanded_of_change (C := Try.checked) own started (by kernel_rfl) Try.func4
    (ChangeSpec.witness6 (enc := enc) (C := Try.checked) false ⟨#[], #[.slice none 0 0, .slice none 0 0], []⟩ 8 (by kernel_rfl) (by kernel_rfl) (by kernel_rfl) (by kernel_rfl)) ?_
  intro W base args ds gs before hval0 hW hcnd _
  have hval : ∀ (j : Nat) t v, Try.f4.params[j]? = some t → args[j]? = some v → Value.okWide Try.prog W .any base t v := hval0
  have hW' := hW
  obtain ⟨p, q, hA0, hV, rfl, hfz, hnd⟩ := hW
  have hA : DataW.TrodAll enc Try.prog W 0 (fun _ => true) true Try.f4.params.toList args.toList ds p := hA0
  rw [Try.params4] at hA hval
  obtain ⟨v0, vs0, d0, ds0, p0, q0, hargs, rfl, rfl, h0, r0⟩ := trodAll_cons hA
  obtain ⟨v1, vs1, d1, ds1, p1, q1, rfl, rfl, rfl, h1, r1⟩ := trodAll_cons r0
  obtain ⟨rfl, rfl, rfl⟩ := trodAll_nil r1
  obtain rfl : args = #[v0, v1] := by cases args; simp_all
  obtain ⟨rfl, rfl⟩ := trodVars_none hV
  have ok0 := hval 0 22 v0 rfl rfl
  have ok1 := hval 1 22 v1 rfl rfl
  clear hA0 hval0 hval hA hV
  simp only [List.append_nil] at hW'
  have fin : ∀ W' : World, Below W.heap.size W W' → Rows.fnAttributesFromConcatenatesSpec.post enc Try.prog Try.f4 false true false false W #[v0, v1] (.bool true) W' := fun W' hb =>
    ⟨_, _, _, [], p0 ++ p1, [], hW', trodAll_mk1 (shut_bool Try.underlying4 _), by
      have := trodAll_cons_mk (Below.trod laidOut (by kernel_rfl) (of_decide_eq_true (by kernel_rfl)) h0 hb (fun x hx => by simpa using hW'.lt x (by simp [hx])))
        (trodAll_cons_mk (Below.trod laidOut (by kernel_rfl) (of_decide_eq_true (by kernel_rfl)) h1 hb (fun x hx => by simpa using hW'.lt x (by simp [hx]))) trodAll_mk0)
      simp only [List.append_nil] at this
      exact this, rfl, hb.frame _, fun h => by cases h⟩
  obtain ⟨ao, len, cap, S, rfl, hm, hc⟩ := open_places ok0 h0
  obtain ⟨ao', len', cap', S', rfl, hm', hc'⟩ := open_places ok1 h1
  refine (law4 ao ao' len cap len' cap' S S' W hm hm' hc hc').mono fun e W' ⟨he, hb⟩ => ?_
  subst he
  exact ⟨_, rfl, fin W' hb⟩

theorem concatenates_proved : Rows.FnAttributesFromConcatenatesSaid :=
  OpenClaim.holds_of_wide 4 Try.f4 rfl rfl rfl rfl rfl rfl rfl ⟨rfl, rfl, rfl, rfl, rfl⟩ rfl rfl rfl rfl rfl (by kernel_rfl) Try.func4 (by kernel_rfl)
    (of_decide_eq_true (by kernel_rfl)) (by unfold Func.isWrapper; first | (rw [if_pos (by decide +kernel)]; kernel_rfl) | (rw [if_neg (by decide +kernel)]; exact ⟨rfl, rfl⟩))
    (fun os started H enc _ => lifted4 os started H enc)
end Go.Proofs.Qxb6609332a
