/-
  Seat b6609182aD: from the walks to the rows: the listed variable kindNames opened, the witness (the heap that the door's own run leaves), the two rows. After the kit's worked examples Mapy and Tab6.
-/
import Derived.Test.Qxb6609182aDoorWalks
import Derived.ProofKit
import Derived.LaidMore
import Derived.OpenShut
import Derived.Stop.Joined
namespace Go.Proofs.Qxb6609182aDoor
open Go.ChangeShapes Go.WideShapes Go.ChangeAt Go.WideMaps Go.WideElems Go.RowKit

/-- The variable's name, as the given row bears it. -/
abbrev nm : String := Rows.fnValidIsOneThroughEightSpec.vars.headD ""
theorem own : ownKnob Tryd.prog.godebug = none := by kernel_rfl
theorem gNames : Tryd.prog.globalNamed nm = some 0 := by kernel_rfl
theorem tNames : (Tryd.prog.globals[0]?).map (·.type) = some 25 := by kernel_rfl
theorem c25 : Tryd.prog.cellsOf 25 = 9 := by kernel_rfl
theorem c9 : Tryd.prog.cellsOf 9 = 1 := by kernel_rfl

/-- The condition, as the rows list it. -/
abbrev laidN : List (String × DataW Unit) := [(nm, Rows.laid_example_com_oarlock_oarlock_kindNames)]

theorem door_met (os : Os) (args : Array Value) : laidMetH Tryd.prog laidN ((World.doorLaid Tryd.prog 400 os).forCall (fun _ _ => 0) ⟨#[], args, []⟩).memory :=
  laidMetH_of_parts3 (fuel := 8) (laidMet_of_run' 8 (by kernel_rfl) (by kernel_rfl)) (by kernel_rfl) (by kernel_rfl)

theorem reads {H : Type} (enc : TypeId × Value → H) (W : World) (sp : Nat → Bool) : DataW.trod enc Tryd.prog W 0 sp true 3 25 names.toList = some (Rows.laid_example_com_oarlock_oarlock_kindNames, []) := by kernel_rfl

theorem str_of {s : ByteArray} {l : List UInt8} (h : (DataW.lit (.string s.data.toList) : DataW Unit) = .lit (.string l)) : Value.string s = .string ⟨l.toArray⟩ := by
  cases s with
  | mk a =>
    simp only [DataW.lit.injEq, Lit.string.injEq] at h
    subst h
    simp

theorem of_laid {W : World} (h : laidMetH Tryd.prog laidN W) : W.var? Tryd.prog nm = some names := by
  rw [MakeChecks.laidMetH_plain _ _ _ (by kernel_rfl)] at h
  obtain ⟨ps, ⟨g0, t0, cs0, f0, p0, q0, hg0, ht0, hv0, hd0, _⟩, _, _⟩ := h
  obtain rfl := Option.some.inj (gNames.symm.trans hg0)
  obtain rfl := Option.some.inj (tNames.symm.trans ht0)
  rw [hv0]
  obtain ⟨xs, m1, rfl, hx1, hlen, hn9, hel⟩ := DataW.trod_array Tryd.underlying25 hd0
  rw [c25] at hlen
  rw [c9] at hel
  simp only [Prod.mk.injEq, Rows.laid_example_com_oarlock_oarlock_kindNames, DataW.agg.injEq] at hx1
  obtain ⟨hx, _⟩ := hx1
  congr 1
  apply Array.toList_inj.1
  apply List.ext_getElem?
  intro i
  by_cases hi : i < 9
  · have he := hel i hi
    have hxi : i < xs.length := by omega
    rw [List.getElem?_eq_getElem hxi] at he
    obtain ⟨s, hs, e2, _⟩ := DataW.trod_string Tryd.underlying9 he
    have h1 : cs0.toList[i]? = some (.string s) := by
      have := congrArg (·[0]?) hs
      simpa [List.getElem?_take, List.getElem?_drop] using this
    have h2 := congrArg (·[i]?) hx
    simp only [List.getElem?_map, List.getElem?_eq_getElem hxi, Option.map_some, e2] at h2
    rw [h1]
    have hi' : i = 0 ∨ i = 1 ∨ i = 2 ∨ i = 3 ∨ i = 4 ∨ i = 5 ∨ i = 6 ∨ i = 7 ∨ i = 8 := by omega
    rcases hi' with rfl | rfl | rfl | rfl | rfl | rfl | rfl | rfl | rfl <;>
      (rw [str_of (Option.some.inj h2).symm]; rfl)
  · rw [List.getElem?_eq_none (by omega), List.getElem?_eq_none (by simp [names]; omega)]

theorem laid_of {W : World} (h : W.var? Tryd.prog nm = some names) : Laid W :=
  fun i _ => World.var?_cell gNames h i

set_option maxRecDepth 100000 in
theorem lifted3 (os : Os) (started : os.Started) (H : Type) (enc : TypeId × Value → H) :
    ReturnsInHanded {} Tryd.checked os 3 .any (fun w args => (Rows.fnValidIsOneThroughEightSpec.pre enc Tryd.prog Tryd.f3 [] false w args ∧ laidMetH Tryd.prog laidN w) ∧ sizedMet enc Tryd.prog Tryd.f3 (OpenSpec.ofChange Rows.fnValidIsOneThroughEightSpec) false w args)
      (Rows.fnValidIsOneThroughEightSpec.post enc Tryd.prog Tryd.f3 false true false false) := by
  refine returnsInHanded_of_change_and (C := Tryd.checked) (X := fun w _ => laidMetH Tryd.prog laidN w) (fun _ _ _ hh h => h.of_heap hh) own started (by kernel_rfl) Tryd.func3
    (ChangeSpec.witness_shaped (enc := enc) (C := Tryd.checked) (os := os) (X := fun w _ => laidMetH Tryd.prog laidN w) false (World.doorLaid Tryd.prog 400 os) #[.int .u8 0] 8 rfl (World.shaped_of_RefB (by kernel_rfl) (by kernel_rfl)) (by kernel_rfl) (by kernel_rfl) (by kernel_rfl) (door_met os _)) ?_
  intro W base args ds gs before hval0 hW _ _ hL _
  have hval : ∀ (j : Nat) t v, Tryd.f3.params[j]? = some t → args[j]? = some v → Value.okWide Tryd.prog W .any base t v := hval0
  have hW' := hW
  obtain ⟨p, q, hA0, hV0, rfl, hfz, hnd⟩ := hW
  have hA : DataW.TrodAll enc Tryd.prog W 0 (fun _ => true) true Tryd.f3.params.toList args.toList ds p := hA0
  have hV : DataW.TrodVars enc Tryd.prog W (fun _ => true) [nm] gs q := hV0
  rw [Tryd.params3] at hA hval
  obtain ⟨v0, d0, rfl, rfl, h0⟩ := trodAll_one hA
  obtain ⟨k, rfl, rfl, rfl, wk⟩ := open_int Tryd.underlying5 (hval 0 5 v0 rfl rfl) h0
  obtain ⟨g, t, cs, fuel, d, p', rfl, hg, ht, hvar, hd, rfl⟩ := trodVars_one hV
  obtain rfl := Option.some.inj (gNames.symm.trans hg)
  obtain rfl := Option.some.inj (tNames.symm.trans ht)
  obtain rfl : cs = names := Option.some.inj (hvar.symm.trans (of_laid hL))
  obtain ⟨rfl, rfl⟩ := DataW.Trod.unique (v := .agg names) ⟨fuel, hd⟩ ⟨3, reads enc W _⟩
  clear hA0 hV0 hval0
  have hvars : ∀ sp : Nat → Bool, DataW.TrodVars enc Tryd.prog W sp [nm] [Rows.laid_example_com_oarlock_oarlock_kindNames] (MemPlace.row ⟨0, 0, none⟩ names.size ++ [] ++ []) := fun sp =>
    ⟨0, 25, names, 3, [], [], hg, ht, hvar, reads enc W sp, rfl, rfl⟩
  have hb := bounds_u8 wk
  refine (one_through_eight k W (laid_of hvar) hb.1 hb.2).mono fun e W' ⟨he, hw⟩ => ?_
  subst he; subst hw
  exact ⟨_, rfl, post_of_same (pa := []) hW' (fun _ _ _ => trodAll_mk1 (shut_bool Tryd.underlying4 _)) (fun sp _ => trodAll_mk1 (shut_int Tryd.underlying5 wk)) (fun sp _ => hvars sp) (by simp)
      (World.keptBut_refl _ _) (fun _ => rfl) (ok_one (by kernel_rfl) rfl (okWide_bool_mk Tryd.underlying4 _))⟩

theorem fnValidIsOneThroughEight_holds : Rows.FnValidIsOneThroughEightSaid :=
  OpenClaim.holds_of_wide 3 Tryd.f3 rfl rfl rfl rfl rfl rfl rfl ⟨rfl, rfl, rfl, rfl, rfl⟩ rfl rfl rfl rfl rfl (by kernel_rfl) Tryd.func3 (by kernel_rfl)
    (of_decide_eq_true (by kernel_rfl)) (by unfold Func.isWrapper; first | (rw [if_pos (by decide +kernel)]; kernel_rfl) | (rw [if_neg (by decide +kernel)]; exact ⟨rfl, rfl⟩))
    (fun os started H enc _ => lifted3 os started H enc)

set_option maxRecDepth 100000 in
theorem lifted4 (os : Os) (started : os.Started) (H : Type) (enc : TypeId × Value → H) :
    ReturnsInHanded {} Tryd.checked os 4 .any (fun w args => (Rows.fnValidExactlyTheEightNamedKindsSpec.pre enc Tryd.prog Tryd.f4 [] false w args ∧ laidMetH Tryd.prog laidN w) ∧ sizedMet enc Tryd.prog Tryd.f4 (OpenSpec.ofChange Rows.fnValidExactlyTheEightNamedKindsSpec) false w args)
      (Rows.fnValidExactlyTheEightNamedKindsSpec.post enc Tryd.prog Tryd.f4 false true false false) := by
  refine returnsInHanded_of_change_and (C := Tryd.checked) (X := fun w _ => laidMetH Tryd.prog laidN w) (fun _ _ _ hh h => h.of_heap hh) own started (by kernel_rfl) Tryd.func4
    (ChangeSpec.witness_shaped (enc := enc) (C := Tryd.checked) (os := os) (X := fun w _ => laidMetH Tryd.prog laidN w) false (World.doorLaid Tryd.prog 400 os) #[] 8 rfl (World.shaped_of_RefB (by kernel_rfl) (by kernel_rfl)) (by kernel_rfl) (by kernel_rfl) (by kernel_rfl) (door_met os _)) ?_
  intro W base args ds gs before hval0 hW _ _ hL _
  have hW' := hW
  obtain ⟨p, q, hA0, hV0, rfl, hfz, hnd⟩ := hW
  have hA : DataW.TrodAll enc Tryd.prog W 0 (fun _ => true) true Tryd.f4.params.toList args.toList ds p := hA0
  have hV : DataW.TrodVars enc Tryd.prog W (fun _ => true) [nm] gs q := hV0
  rw [Tryd.params4] at hA
  obtain ⟨hargs, rfl, rfl⟩ := trodAll_nil hA
  obtain rfl : args = #[] := by cases args; simp_all
  obtain ⟨g, t, cs, fuel, d, p', rfl, hg, ht, hvar, hd, rfl⟩ := trodVars_one hV
  obtain rfl := Option.some.inj (gNames.symm.trans hg)
  obtain rfl := Option.some.inj (tNames.symm.trans ht)
  obtain rfl : cs = names := Option.some.inj (hvar.symm.trans (of_laid hL))
  obtain ⟨rfl, rfl⟩ := DataW.Trod.unique (v := .agg names) ⟨fuel, hd⟩ ⟨3, reads enc W _⟩
  clear hA0 hV0 hval0
  have hvars : ∀ sp : Nat → Bool, DataW.TrodVars enc Tryd.prog W sp [nm] [Rows.laid_example_com_oarlock_oarlock_kindNames] (MemPlace.row ⟨0, 0, none⟩ names.size ++ [] ++ []) := fun sp =>
    ⟨0, 25, names, 3, [], [], hg, ht, hvar, reads enc W sp, rfl, rfl⟩
  refine (exactly_eight W (laid_of hvar)).mono fun e W' ⟨he, hw⟩ => ?_
  subst he; subst hw
  exact ⟨_, rfl, post_of_same (pa := []) hW' (fun _ _ _ => trodAll_mk1 (shut_bool Tryd.underlying4 _)) (fun sp _ => trodAll_mk0) (fun sp _ => hvars sp) (by simp)
      (World.keptBut_refl _ _) (fun _ => rfl) (ok_one (by kernel_rfl) rfl (okWide_bool_mk Tryd.underlying4 _))⟩

theorem fnValidExactlyTheEightNamedKinds_holds : Rows.FnValidExactlyTheEightNamedKindsSaid :=
  OpenClaim.holds_of_wide 4 Tryd.f4 rfl rfl rfl rfl rfl rfl rfl ⟨rfl, rfl, rfl, rfl, rfl⟩ rfl rfl rfl rfl rfl (by kernel_rfl) Tryd.func4 (by kernel_rfl)
    (of_decide_eq_true (by kernel_rfl)) (by unfold Func.isWrapper; first | (rw [if_pos (by decide +kernel)]; kernel_rfl) | (rw [if_neg (by decide +kernel)]; exact ⟨rfl, rfl⟩))
    (fun os started H enc _ => lifted4 os started H enc)
end Go.Proofs.Qxb6609182aDoor
