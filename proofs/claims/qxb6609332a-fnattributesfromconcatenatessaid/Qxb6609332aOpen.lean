/-
  Seat b6609332a: the argument ([]ZPlace) opened; the first law's row.
-/
import Derived.Test.Qxb6609332aLaw3
import Derived.ProofKit
import Derived.OpenShut
import Derived.ShutString
import Derived.Deep.Strs
namespace Go.Proofs.Qxb6609332a
open Go.ChangeShapes Go.WideShapes Go.ChangeAt Go.RowKit Go.Deep
open Go.ChangeMaps (open_string shut_string)

theorem own : ownKnob Try.prog.godebug = none := by kernel_rfl
theorem laidOut : laidOutB Try.prog = true := by kernel_rfl
theorem cells33 : Try.prog.cellsOf 33 = 11 := by kernel_rfl
theorem cells3 : Try.prog.cellsOf 3 = 1 := by kernel_rfl
theorem cells4 : Try.prog.cellsOf 4 = 1 := by kernel_rfl
theorem cells9 : Try.prog.cellsOf 9 = 1 := by kernel_rfl

theorem eleven {cs : List Value} (h : cs.length = 11) : ∃ c0 c1 c2 c3 c4 c5 c6 c7 c8 c9 c10, cs = [c0, c1, c2, c3, c4, c5, c6, c7, c8, c9, c10] := by
  match cs, h with
  | [c0, c1, c2, c3, c4, c5, c6, c7, c8, c9, c10], _ => exact ⟨c0, c1, c2, c3, c4, c5, c6, c7, c8, c9, c10, rfl⟩

section
variable {H : Type} {enc : TypeId × Value → H} {W : World} {fuel : Nat}
theorem open_place {cs : List Value} {x : DataW H × List MemPlace} (h : DataW.trod enc Try.prog W 0 (fun _ => true) true fuel 33 cs = some x) : ∃ p : Pl, cs = p.cells := by
  obtain ⟨xs, n, _, _, hl, hxl, hf⟩ := DataW.trod_struct Try.underlying33 h
  rw [cells33] at hl
  have get : ∀ i, i < 11 → ∃ y, xs[i]? = some y := fun i hi => ⟨_, List.getElem?_eq_getElem (by rw [hxl]; exact hi)⟩
  obtain ⟨y0, e0⟩ := get 0 (by omega)
  obtain ⟨y1, e1⟩ := get 1 (by omega)
  obtain ⟨y2, e2⟩ := get 2 (by omega)
  obtain ⟨y3, e3⟩ := get 3 (by omega)
  obtain ⟨y4, e4⟩ := get 4 (by omega)
  obtain ⟨y5, e5⟩ := get 5 (by omega)
  obtain ⟨y6, e6⟩ := get 6 (by omega)
  obtain ⟨y7, e7⟩ := get 7 (by omega)
  obtain ⟨y8, e8⟩ := get 8 (by omega)
  obtain ⟨y9, e9⟩ := get 9 (by omega)
  obtain ⟨y10, e10⟩ := get 10 (by omega)
  have g0 : DataW.trod enc Try.prog W 0 (fun _ => true) true n 3 ((cs.drop 0).take (Try.prog.cellsOf 3)) = some y0 := (hf 0 _ rfl).trans e0
  have g1 : DataW.trod enc Try.prog W 0 (fun _ => true) true n 4 ((cs.drop 1).take (Try.prog.cellsOf 4)) = some y1 := (hf 1 _ rfl).trans e1
  have g2 : DataW.trod enc Try.prog W 0 (fun _ => true) true n 4 ((cs.drop 2).take (Try.prog.cellsOf 4)) = some y2 := (hf 2 _ rfl).trans e2
  have g3 : DataW.trod enc Try.prog W 0 (fun _ => true) true n 4 ((cs.drop 3).take (Try.prog.cellsOf 4)) = some y3 := (hf 3 _ rfl).trans e3
  have g4 : DataW.trod enc Try.prog W 0 (fun _ => true) true n 4 ((cs.drop 4).take (Try.prog.cellsOf 4)) = some y4 := (hf 4 _ rfl).trans e4
  have g5 : DataW.trod enc Try.prog W 0 (fun _ => true) true n 9 ((cs.drop 5).take (Try.prog.cellsOf 9)) = some y5 := (hf 5 _ rfl).trans e5
  have g6 : DataW.trod enc Try.prog W 0 (fun _ => true) true n 9 ((cs.drop 6).take (Try.prog.cellsOf 9)) = some y6 := (hf 6 _ rfl).trans e6
  have g7 : DataW.trod enc Try.prog W 0 (fun _ => true) true n 9 ((cs.drop 7).take (Try.prog.cellsOf 9)) = some y7 := (hf 7 _ rfl).trans e7
  have g8 : DataW.trod enc Try.prog W 0 (fun _ => true) true n 9 ((cs.drop 8).take (Try.prog.cellsOf 9)) = some y8 := (hf 8 _ rfl).trans e8
  have g9 : DataW.trod enc Try.prog W 0 (fun _ => true) true n 9 ((cs.drop 9).take (Try.prog.cellsOf 9)) = some y9 := (hf 9 _ rfl).trans e9
  have g10 : DataW.trod enc Try.prog W 0 (fun _ => true) true n 9 ((cs.drop 10).take (Try.prog.cellsOf 9)) = some y10 := (hf 10 _ rfl).trans e10
  obtain ⟨c0, c1, c2, c3, c4, c5, c6, c7, c8, c9, c10, rfl⟩ := eleven hl
  rw [cells3] at g0
  rw [cells4] at g1 g2 g3 g4
  rw [cells9] at g5 g6 g7 g8 g9 g10
  obtain ⟨d, r0, _⟩ := DataW.trod_int Try.underlying3 g0
  obtain ⟨b1, r1, _⟩ := DataW.trod_bool Try.underlying4 g1
  obtain ⟨b2, r2, _⟩ := DataW.trod_bool Try.underlying4 g2
  obtain ⟨b3, r3, _⟩ := DataW.trod_bool Try.underlying4 g3
  obtain ⟨b4, r4, _⟩ := DataW.trod_bool Try.underlying4 g4
  obtain ⟨s5, r5, _⟩ := DataW.trod_string Try.underlying9 g5
  obtain ⟨s6, r6, _⟩ := DataW.trod_string Try.underlying9 g6
  obtain ⟨s7, r7, _⟩ := DataW.trod_string Try.underlying9 g7
  obtain ⟨s8, r8, _⟩ := DataW.trod_string Try.underlying9 g8
  obtain ⟨s9, r9, _⟩ := DataW.trod_string Try.underlying9 g9
  obtain ⟨s10, r10, _⟩ := DataW.trod_string Try.underlying9 g10
  simp only [List.drop_succ_cons, List.drop_zero, List.take_succ_cons, List.take_zero, List.cons.injEq, and_true] at r0 r1 r2 r3 r4 r5 r6 r7 r8 r9 r10
  exact ⟨⟨d, b1, b2, b3, b4, s5, s6, s7, s8, s9, s10⟩, by simp only [Pl.cells, r0, r1, r2, r3, r4, r5, r6, r7, r8, r9, r10]⟩

def noPl : Pl := ⟨0, false, false, false, false, ⟨#[]⟩, ⟨#[]⟩, ⟨#[]⟩, ⟨#[]⟩, ⟨#[]⟩, ⟨#[]⟩⟩
theorem open_places {base : Nat} {v : Value} {d : DataW H} {p : List MemPlace} (hv : Value.okWide Try.prog W .any base 22 v) (h : DataW.Trod enc Try.prog W 0 (fun _ => true) true 22 v d p) :
    ∃ (ao : Option Addr) (len cap : Nat) (S : Nat → Pl), v = .slice ao len cap ∧ len ≤ maxLen ∧ PlsAt W ao len S := by
  obtain ⟨a0, len, cap, rfl⟩ := okWide_slice Try.underlying22 hv
  obtain ⟨fuel, hf⟩ := h
  rcases open_slice Try.underlying22 hf with ⟨hcs, _⟩ | ⟨a, len', cap', m, n, D, Ps, hcs, _, hl, hm, hmm, _, hx⟩
  · have : a0 = none ∧ len = 0 ∧ cap = 0 := by simpa [Value.cells] using hcs
    obtain ⟨rfl, rfl, rfl⟩ := this
    exact ⟨none, 0, 0, fun _ => noPl, rfl, Nat.zero_le _, .inl rfl⟩
  · simp [Value.cells] at hcs
    obtain ⟨rfl, rfl, rfl⟩ := hcs
    simp only [if_true] at hmm
    subst hmm
    rw [cells33] at hx
    have each : ∀ i, i < m → ∃ q : Pl, ∀ t, t < 11 → W.cell? ((a.add (i * 11)).add t) = q.cells[t]? := fun i hi => by
      obtain ⟨cs', h1, h2⟩ := hx i hi
      obtain ⟨q, rfl⟩ := open_place h2
      obtain ⟨_, _, hc⟩ := World.cells?_some h1
      exact ⟨q, hc⟩
    obtain ⟨S, hS⟩ := @choose_lt Pl ⟨noPl⟩ _ _ each
    refine ⟨some a, len, m, S, rfl, by omega, ?_⟩
    obtain ⟨b, off, spot⟩ := a
    by_cases h0 : len = 0
    · exact .inl h0
    · have h00 := hS 0 (by omega) 0 (by omega)
      have hspot : spot = none := by
        have := World.cell?_spot (h00.trans rfl)
        simpa [Addr.add] using this
      subst hspot
      refine .inr ⟨b, off, rfl, fun i hi => ?_⟩
      have cc : ∀ t, t < 11 → W.cell? ⟨b, off + i * 11 + t, none⟩ = (S i).cells[t]? := fun t ht => by
        have := hS i (by omega) t ht
        rwa [add_plain, add_plain] at this
      exact ⟨cc 0 (by omega), cc 1 (by omega), cc 2 (by omega), cc 3 (by omega), cc 4 (by omega), cc 5 (by omega), cc 6 (by omega), cc 7 (by omega), cc 8 (by omega), cc 9 (by omega), cc 10 (by omega)⟩
end

set_option maxHeartbeats 800000 in
set_option maxRecDepth 100000 in
theorem lifted3 (os : Os) (started : os.Started) (H : Type) (enc : TypeId × Value → H) :
    ReturnsInHanded {} Try.checked os 3 .any (Rows.fnAttributesFromWalkRoundTripSpec.pre6 enc Try.prog Try.f3 Rows.fnAttributesFromWalkRoundTripRow.domain false) (Rows.fnAttributesFromWalkRoundTripSpec.post enc Try.prog Try.f3 false true false false) := by
  refine returnsInHanded_of_change (C := Try.checked) own started (by kernel_rfl) Try.func3
    (ChangeSpec.witness6 (enc := enc) (C := Try.checked) false ⟨#[], #[.slice none 0 0], []⟩ 8 (by kernel_rfl) (by kernel_rfl) (by kernel_rfl) (by kernel_rfl)) ?_
  intro W base args ds gs before hval0 hW hcnd _
  have hval : ∀ (j : Nat) t v, Try.f3.params[j]? = some t → args[j]? = some v → Value.okWide Try.prog W .any base t v := hval0
  have hW' := hW
  obtain ⟨p, q, hA0, hV, rfl, hfz, hnd⟩ := hW
  have hA : DataW.TrodAll enc Try.prog W 0 (fun _ => true) true Try.f3.params.toList args.toList ds p := hA0
  rw [Try.params3] at hA hval
  obtain ⟨v0, vs0, d0, ds0, p0, q0, hargs, rfl, rfl, h0, r0⟩ := trodAll_cons hA
  obtain ⟨rfl, rfl, rfl⟩ := trodAll_nil r0
  obtain rfl : args = #[v0] := by cases args; simp_all
  obtain ⟨rfl, rfl⟩ := trodVars_none hV
  have ok0 := hval 0 22 v0 rfl rfl
  clear hA0 hval0 hval hA hV
  simp only [List.append_nil] at hW'
  have fin : ∀ W' : World, Below W.heap.size W W' → Rows.fnAttributesFromWalkRoundTripSpec.post enc Try.prog Try.f3 false true false false W #[v0] (.bool true) W' := fun W' hb =>
    ⟨_, _, _, [], p0, [], hW', trodAll_mk1 (shut_bool Try.underlying4 _), by
      have := trodAll_cons_mk (Below.trod laidOut (by kernel_rfl) (of_decide_eq_true (by kernel_rfl)) h0 hb (fun x hx => by simpa using hW'.lt x (by simp [hx]))) trodAll_mk0
      simp only [List.append_nil] at this
      exact this, rfl, hb.frame _, fun h => by cases h⟩
  obtain ⟨ao, len, cap, S, rfl, hm, hc⟩ := open_places ok0 h0
  refine (law3 ao len cap S W hm hc).mono fun e W' ⟨he, hb⟩ => ?_
  subst he
  exact ⟨_, rfl, fin W' hb⟩

theorem roundTrip_proved : Rows.FnAttributesFromWalkRoundTripSaid :=
  OpenClaim.holds_of_wide 3 Try.f3 rfl rfl rfl rfl rfl rfl rfl ⟨rfl, rfl, rfl, rfl, rfl⟩ rfl rfl rfl rfl rfl (by kernel_rfl) Try.func3 (by kernel_rfl)
    (of_decide_eq_true (by kernel_rfl)) (by unfold Func.isWrapper; first | (rw [if_pos (by decide +kernel)]; kernel_rfl) | (rw [if_neg (by decide +kernel)]; exact ⟨rfl, rfl⟩))
    (fun os started H enc _ => lifted3 os started H enc)
end Go.Proofs.Qxb6609332a
