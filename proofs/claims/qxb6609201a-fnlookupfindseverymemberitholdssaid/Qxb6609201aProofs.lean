/-
  Seat b6609201a: from the walks to the two rows: the arguments opened ([]string: 'open_strs'), the walk, the arguments read again in the world behind the call ('Below.trod').
-/
import Derived.Test.Qxb6609201aWalkD
import Derived.ProofKit
import Derived.OpenShut
import Derived.ShutString
import Derived.Deep.Strs
namespace Go.Proofs.Qxb6609201a
open Go.ChangeShapes Go.WideShapes Go.ChangeAt Go.RowKit Go.Deep
open Go.ChangeMaps (open_string shut_string)

theorem own : ownKnob Try.prog.godebug = none := by kernel_rfl
theorem cells9 : Try.prog.cellsOf 9 = 1 := by kernel_rfl

/-- A []string argument, opened into what the walks ask. -/
theorem open_names {H : Type} {enc : TypeId × Value → H} {W : World} {base : Nat} {v : Value} {d : DataW H} {p : List MemPlace} (hv : Value.okWide Try.prog W .any base 22 v) (h : DataW.Trod enc Try.prog W 0 (fun _ => true) true 22 v d p) :
    v = .slice none 0 0 ∨ ∃ (a : Addr) (len cap : Nat) (S : Nat → ByteArray), v = .slice (some a) len cap ∧ len ≤ maxLen ∧ (∀ i, i < len → (S i).size ≤ maxLen) ∧ StrsAt W (some a) len S := by
  obtain ⟨a0, len, cap, rfl⟩ := okWide_slice Try.underlying22 hv
  obtain ⟨fuel, hf⟩ := h
  rcases open_strs Try.underlying22 Try.underlying9 cells9 hf with ⟨hcs, _⟩ | ⟨a, len', cap', m, Sx, hcs, _, hl, hm, hmm, _, hcell⟩
  · left
    simpa [Value.cells] using hcs
  right
  simp [Value.cells] at hcs
  obtain ⟨rfl, rfl, rfl⟩ := hcs
  simp only [if_true] at hmm
  subst hmm
  refine ⟨a, len, m, Sx, rfl, by omega, fun i hi => (hcell i (by omega)).2, ?_⟩
  obtain ⟨b, off, spot⟩ := a
  by_cases h0 : len = 0
  · exact Or.inl h0
  · have hspot : spot = none := by simpa [Addr.add] using World.cell?_spot (hcell 0 (by omega)).1
    subst hspot
    exact Or.inr ⟨b, off, rfl, fun i hi => by rw [← add_plain]; exact (hcell i (by omega)).1⟩

theorem laidOut : laidOutB Try.prog = true := by kernel_rfl

set_option maxHeartbeats 800000 in
set_option maxRecDepth 100000 in
theorem lifted3 (os : Os) (started : os.Started) (H : Type) (enc : TypeId × Value → H) :
    ReturnsInHanded {} Try.checked os 3 .any (Rows.fnLookupFindsTheFirstMemberOfThatNameSpec.pre6 enc Try.prog Try.f3 Rows.fnLookupFindsTheFirstMemberOfThatNameRow.domain false) (Rows.fnLookupFindsTheFirstMemberOfThatNameSpec.post enc Try.prog Try.f3 false true false false) := by
  refine returnsInHanded_of_change (C := Try.checked) own started (by kernel_rfl) Try.func3
    (ChangeSpec.witness6 (enc := enc) (C := Try.checked) false ⟨#[], #[.slice none 0 0, .string ⟨#[]⟩], []⟩ 8 (by kernel_rfl) (by kernel_rfl) (by kernel_rfl) (by kernel_rfl)) ?_
  intro W base args ds gs before hval0 hW hcnd _
  have hval : ∀ (j : Nat) t v, Try.f3.params[j]? = some t → args[j]? = some v → Value.okWide Try.prog W .any base t v := hval0
  have hW' := hW
  obtain ⟨p, q, hA0, hV, rfl, hfz, hnd⟩ := hW
  have hA : DataW.TrodAll enc Try.prog W 0 (fun _ => true) true Try.f3.params.toList args.toList ds p := hA0
  rw [Try.params3] at hA hval
  obtain ⟨v0, vs0, d0, ds0, p0, q0, hargs, rfl, rfl, h0, r0⟩ := trodAll_cons hA
  obtain ⟨v1, vs1, d1, ds1, p1, q1, rfl, rfl, rfl, h1, r1⟩ := trodAll_cons r0
  obtain ⟨rfl, rfl, rfl⟩ := trodAll_nil r1
  obtain rfl : args = #[v0, v1] := by cases args; simp_all
  obtain ⟨rfl, rfl⟩ := trodVars_none hV
  have ok0 := hval 0 22 v0 rfl rfl
  have ok1 := hval 1 9 v1 rfl rfl
  clear hA0 hval0 hval hA hV
  simp only [List.append_nil] at hW'
  have fin : ∀ W' : World, Below W.heap.size W W' → Rows.fnLookupFindsTheFirstMemberOfThatNameSpec.post enc Try.prog Try.f3 false true false false W #[v0, v1] (.bool true) W' := fun W' hb =>
    ⟨_, _, _, [], p0 ++ p1, [], hW', trodAll_mk1 (shut_bool Try.underlying4 _), by
      have := trodAll_cons_mk (Below.trod laidOut (by kernel_rfl) (of_decide_eq_true (by kernel_rfl)) h0 hb (fun x hx => by simpa using hW'.lt x (by simp [hx])))
        (trodAll_cons_mk (Below.trod laidOut (by kernel_rfl) (of_decide_eq_true (by kernel_rfl)) h1 hb (fun x hx => by simpa using hW'.lt x (by simp [hx]))) trodAll_mk0)
      simp only [List.append_nil] at this
      exact this, rfl, hb.frame _, fun h => by cases h⟩
  obtain ⟨nm, rfl, _, _, hnm⟩ := open_string Try.underlying9 ok1 h1
  rcases open_names ok0 h0 with rfl | ⟨a, len, cap, S, rfl, hm, hs, hc⟩
  · refine (first_nil nm W hnm).mono fun e W' ⟨he, hb⟩ => ?_
    subst he
    exact ⟨_, rfl, fin W' hb⟩
  · refine (first_some a len cap S nm W hm hs hnm hc).mono fun e W' ⟨he, hb⟩ => ?_
    subst he
    exact ⟨_, rfl, fin W' hb⟩

theorem first_proved : Rows.FnLookupFindsTheFirstMemberOfThatNameSaid :=
  OpenClaim.holds_of_wide 3 Try.f3 rfl rfl rfl rfl rfl rfl rfl ⟨rfl, rfl, rfl, rfl, rfl⟩ rfl rfl rfl rfl rfl (by kernel_rfl) Try.func3 (by kernel_rfl)
    (of_decide_eq_true (by kernel_rfl)) (by unfold Func.isWrapper; first | (rw [if_pos (by decide +kernel)]; kernel_rfl) | (rw [if_neg (by decide +kernel)]; exact ⟨rfl, rfl⟩))
    (fun os started H enc _ => lifted3 os started H enc)

set_option maxHeartbeats 800000 in
set_option maxRecDepth 100000 in
theorem lifted4 (os : Os) (started : os.Started) (H : Type) (enc : TypeId × Value → H) :
    ReturnsInHanded {} Try.checked os 4 .any (Rows.fnLookupFindsEveryMemberItHoldsSpec.pre6 enc Try.prog Try.f4 Rows.fnLookupFindsEveryMemberItHoldsRow.domain false) (Rows.fnLookupFindsEveryMemberItHoldsSpec.post enc Try.prog Try.f4 false true false false) := by
  refine returnsInHanded_of_change (C := Try.checked) own started (by kernel_rfl) Try.func4
    (ChangeSpec.witness6 (enc := enc) (C := Try.checked) false ⟨#[], #[.slice none 0 0], []⟩ 8 (by kernel_rfl) (by kernel_rfl) (by kernel_rfl) (by kernel_rfl)) ?_
  intro W base args ds gs before hval0 hW hcnd _
  have hval : ∀ (j : Nat) t v, Try.f4.params[j]? = some t → args[j]? = some v → Value.okWide Try.prog W .any base t v := hval0
  have hW' := hW
  obtain ⟨p, q, hA0, hV, rfl, hfz, hnd⟩ := hW
  have hA : DataW.TrodAll enc Try.prog W 0 (fun _ => true) true Try.f4.params.toList args.toList ds p := hA0
  rw [Try.params4] at hA hval
  obtain ⟨v0, vs0, d0, ds0, p0, q0, hargs, rfl, rfl, h0, r0⟩ := trodAll_cons hA
  obtain ⟨rfl, rfl, rfl⟩ := trodAll_nil r0
  obtain rfl : args = #[v0] := by cases args; simp_all
  obtain ⟨rfl, rfl⟩ := trodVars_none hV
  have ok0 := hval 0 22 v0 rfl rfl
  clear hA0 hval0 hval hA hV
  simp only [List.append_nil] at hW'
  have fin : ∀ W' : World, Below W.heap.size W W' → Rows.fnLookupFindsEveryMemberItHoldsSpec.post enc Try.prog Try.f4 false true false false W #[v0] (.bool true) W' := fun W' hb =>
    ⟨_, _, _, [], p0, [], hW', trodAll_mk1 (shut_bool Try.underlying4 _), by
      have := trodAll_cons_mk (Below.trod laidOut (by kernel_rfl) (of_decide_eq_true (by kernel_rfl)) h0 hb (fun x hx => by simpa using hW'.lt x (by simp [hx]))) trodAll_mk0
      simp only [List.append_nil] at this
      exact this, rfl, hb.frame _, fun h => by cases h⟩
  rcases open_names ok0 h0 with rfl | ⟨a, len, cap, S, rfl, hm, hs, hc⟩
  · refine (every_nil W).mono fun e W' ⟨he, hb⟩ => ?_
    subst he
    exact ⟨_, rfl, fin W' hb⟩
  · refine (every_some a len cap S W hm hs hc).mono fun e W' ⟨he, hb⟩ => ?_
    subst he
    exact ⟨_, rfl, fin W' hb⟩

theorem every_proved : Rows.FnLookupFindsEveryMemberItHoldsSaid :=
  OpenClaim.holds_of_wide 4 Try.f4 rfl rfl rfl rfl rfl rfl rfl ⟨rfl, rfl, rfl, rfl, rfl⟩ rfl rfl rfl rfl rfl (by kernel_rfl) Try.func4 (by kernel_rfl)
    (of_decide_eq_true (by kernel_rfl)) (by unfold Func.isWrapper; first | (rw [if_pos (by decide +kernel)]; kernel_rfl) | (rw [if_neg (by decide +kernel)]; exact ⟨rfl, rfl⟩))
    (fun os started H enc _ => lifted4 os started H enc)
end Go.Proofs.Qxb6609201a
