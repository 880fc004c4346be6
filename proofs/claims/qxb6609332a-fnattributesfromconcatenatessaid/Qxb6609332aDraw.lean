/-
  Seat b6609332a: a region that draws its order, within a round of a loop over an iterator; loads taken first under a condition that need only stand behind the operations named early.
-/
import Derived.OrdersHeld
import Derived.OrdersIn
import Derived.OwnWalkIn
import Derived.Below
namespace Go.Proofs.Qxb6609332a
open Go.RowKit

section
variable {P : Program} {ops : Array Oper} {Q : Exit → Act → World → Prop} {md : Region.Mode} {S : World → Prop} {E : Nat → Bool}

/-- Whatever order is picked; the condition holds behind each early operation. -/
def AnyE (P : Program) (md : Region.Mode) (ops : Array Oper) (Q : Exit → Act → World → Prop) (S : World → Prop) (E : Nat → Bool) : Nat → Array Bool → Act → World → Prop
  | 0, listed, a, w => Region.ready md ops listed = [] ∧ Q .normal a w
  | fuel + 1, listed, a, w =>
    (Region.ready md ops listed = [] → Q .normal a w) ∧
    ∀ i ∈ Region.ready md ops listed, wpOp P ops Q i (fun a' w' => (E i = true → S w') ∧ AnyE P md ops Q S E fuel (listed.setIfInBounds i true) a' w') a w

theorem any_of_E : ∀ (fuel : Nat) (listed : Array Bool) (a : Act) (w : World), AnyE P md ops Q S E fuel listed a w → wpAny P md ops Q fuel listed a w
  | 0, _, _, _, h => h
  | fuel + 1, _, _, _, h => ⟨h.1, fun i hi => wpOp_mono (fun a' w' h' => any_of_E fuel _ a' w' h'.2) (h.2 i hi)⟩
/-- Where no early operation is left, the condition binds no more. -/
theorem E_of_any : ∀ (fuel : Nat) (listed : Array Bool) (a : Act) (w : World), (∀ j, listed.getD j true = false → E j = false) → wpAny P md ops Q fuel listed a w → AnyE P md ops Q S E fuel listed a w
  | 0, _, _, _, _, h => h
  | fuel + 1, listed, _, _, he, h => ⟨h.1, fun i hi => wpOp_mono (fun a' w' h' => ⟨fun e => (by rw [he i (mem_ready.1 hi).1] at e; cases e), E_of_any fuel _ a' w' (fun j hj => he j (by
      by_cases e : i = j
      · subst e; exact (mem_ready.1 hi).1
      · rw [getD_set_ne true e] at hj; exact hj)) h'⟩) (h.2 i hi)⟩

/-- All that are not early wait for number i. -/
def waitsFor (md : Region.Mode) (ops : Array Oper) (E : Nat → Bool) (i : Nat) : Bool :=
  (List.range ops.size).all fun j => E j || (match ops[j]? with | none => true | some o => o.after.any fun e => Region.binds md e && e.on == i)
theorem waitsFor_spec {i j : Nat} {o : Oper} (h : waitsFor md ops E i = true) (ho : ops[j]? = some o) (hno : ∀ e ∈ o.after, Region.binds md e = true → e.on ≠ i) : E j = true := by
  have hj : j < ops.size := (Array.getElem?_eq_some_iff.1 ho).1
  have := List.all_eq_true.1 h j (List.mem_range.2 hj)
  simp only [ho, Bool.or_eq_true, Array.any_eq_true', Bool.and_eq_true, beq_iff_eq] at this
  rcases this with h | ⟨e, he, hb, hi⟩
  · exact h
  · exact (hno e he hb hi).elim

theorem E_first {i : Nat} {oi : Oper} {v : Value} (hi : ops[i]? = some oi) (hsel : ∀ (j : Nat) (o : Oper) cs b, ops[j]? = some o → o.op ≠ .select cs b)
    (hQ : ∀ c a w, Q (.panic c) (a.put oi.dst v) w → Q (.panic c) a w) (hW : waitsFor md ops E i = true) :
    ∀ (fuel : Nat) (listed : Array Bool) (a : Act) (w : World),
      (∀ j oj, ops[j]? = some oj → j ≠ i → listed.getD j true = false → (∀ e ∈ oj.after, Region.binds md e = true → e.on ≠ i) → oi.apart ops oj = true) →
      i ∈ Region.ready md ops listed → YieldsIf P ops S oi v a → S w →
      AnyE P md ops Q S E fuel (listed.setIfInBounds i true) (a.put oi.dst v) w → AnyE P md ops Q S E (fuel + 1) listed a w := by
  intro fuel
  induction fuel with
  | zero =>
    intro listed a w _ hr hy hS H
    refine ⟨fun h => (by rw [h] at hr; cases hr), fun j hj => ?_⟩
    by_cases hji : j = i
    · subst hji
      exact hy.wpOp hi hS ⟨fun _ => hS, H⟩
    · have := ready_mono hj hji
      rw [H.1] at this
      cases this
  | succ fuel ih =>
    intro listed a w hfree hr hy hS H
    refine ⟨fun h => (by rw [h] at hr; cases hr), fun j hj => ?_⟩
    by_cases hji : j = i
    · subst hji
      exact hy.wpOp hi hS ⟨fun _ => hS, H⟩
    · obtain ⟨hjun, oj, hoj, hall⟩ := mem_ready.1 hj
      have hnot : ∀ e ∈ oj.after, Region.binds md e = true → e.on ≠ i := by
        intro e he hb heq
        have h1 := hall e he hb
        have h0 := (mem_ready.1 hr).1
        rw [heq] at h1
        rcases Nat.lt_or_ge i listed.size with h' | h'
        · simp [h'] at h0 h1
          rw [h0] at h1
          cases h1
        · simp [Array.getElem?_eq_none h'] at h1
      have hEj : E j = true := waitsFor_spec hW hoj hnot
      have h2 := wpOp_putIf hoj (hfree j oj hoj hji hjun hnot) (fun cs b => hsel i oi cs b hi) (fun cs b => hsel j oj cs b hoj) hQ hy (H.2 j (ready_mono hj hji))
      refine wpOp_mono ?_ h2
      rintro a' w' ⟨hy', hs', hrest⟩
      refine ⟨fun _ => hs' hEj, ih (listed.setIfInBounds j true) a' w' ?_ (ready_mono hr (Ne.symm hji)) hy' (hs' hEj) ?_⟩
      · intro k ok hk hki hun hno
        refine hfree k ok hk hki ?_ hno
        by_cases hjk : j = k
        · subst hjk; exact hjun
        · rw [getD_set_ne true hjk] at hun; exact hun
      · rw [Array.setIfInBounds_comm _ _ hji]
        exact hrest

theorem E_take {i : Nat} {oi : Oper} {v : Value} {fuel : Nat} {listed : Array Bool} {a : Act} {w : World} (hi : ops[i]? = some oi)
    (hs : Region.noSelect ops = true) (hf : Region.free md ops listed i = true) (hr : (Region.ready md ops listed).contains i = true) (hW : waitsFor md ops E i = true)
    (hQ : ∀ c a w, Q (.panic c) (a.put oi.dst v) w → Q (.panic c) a w) (hy : YieldsIf P ops S oi v a) (hS : S w)
    (h : AnyE P md ops Q S E fuel (listed.setIfInBounds i true) (a.put oi.dst v) w) : AnyE P md ops Q S E (fuel + 1) listed a w :=
  E_first hi (Region.noSelect_spec hs) hQ hW fuel listed a w (Region.free_spec hi hf) (by simpa using hr) hy hS h
/-- One alone may come up. -/
theorem E_one {i : Nat} {o : Oper} {fuel : Nat} {listed : Array Bool} {a : Act} {w : World} (hr : Region.ready md ops listed = [i]) (ho : ops[i]? = some o) (hg : o.guard = none)
    (h : ∀ K : Act → World → Prop, Hid (∀ a' w', (E i = true → S w') → AnyE P md ops Q S E fuel (listed.setIfInBounds i true) a' w' → K a' w') → o.wp P a w K Q) : AnyE P md ops Q S E (fuel + 1) listed a w := by
  refine ⟨fun h0 => (by rw [hr] at h0; cases h0), fun j hj => ?_⟩
  rw [hr, List.mem_singleton] at hj
  subst hj
  unfold wpOp
  rw [ho]
  simp only [Region.wanted, hg, if_true]
  exact .inl (h _ (show ∀ a' w', _ from fun a' w' h1 h2 => ⟨h1, h2⟩))
/-- Two may come up. -/
theorem any_two {i j : Nat} {oi oj : Oper} {fuel : Nat} {listed : Array Bool} {a : Act} {w : World} (hr : Region.ready md ops listed = [i, j]) (hi : ops[i]? = some oi) (hj : ops[j]? = some oj) (gi : oi.guard = none) (gj : oj.guard = none)
    (h1 : ∀ K : Act → World → Prop, Hid (∀ a' w', wpAny P md ops Q fuel (listed.setIfInBounds i true) a' w' → K a' w') → oi.wp P a w K Q)
    (h2 : ∀ K : Act → World → Prop, Hid (∀ a' w', wpAny P md ops Q fuel (listed.setIfInBounds j true) a' w' → K a' w') → oj.wp P a w K Q) : wpAny P md ops Q (fuel + 1) listed a w := by
  refine ⟨fun h0 => (by rw [hr] at h0; cases h0), fun k hk => ?_⟩
  rw [hr] at hk
  unfold wpOp
  rcases List.mem_cons.1 hk with rfl | hk
  · rw [hi]
    simp only [Region.wanted, gi, if_true]
    exact .inl (h1 _ (fun _ _ h => h))
  · rw [List.mem_singleton] at hk
    subst hk
    rw [hj]
    simp only [Region.wanted, gj, if_true]
    exact .inl (h2 _ (fun _ _ h => h))
theorem any_one {i : Nat} {oi : Oper} {fuel : Nat} {listed : Array Bool} {a : Act} {w : World} (hr : Region.ready md ops listed = [i]) (hi : ops[i]? = some oi) (gi : oi.guard = none)
    (h1 : ∀ K : Act → World → Prop, Hid (∀ a' w', wpAny P md ops Q fuel (listed.setIfInBounds i true) a' w' → K a' w') → oi.wp P a w K Q) : wpAny P md ops Q (fuel + 1) listed a w := by
  refine ⟨fun h0 => (by rw [hr] at h0; cases h0), fun k hk => ?_⟩
  rw [hr, List.mem_singleton] at hk
  subst hk
  unfold wpOp
  rw [hi]
  simp only [Region.wanted, gi, if_true]
  exact .inl (h1 _ (fun _ _ h => h))

/-! ### From the plain walk into a round -/
theorem opIn_of_op {l n i : Nat} {K K' : Act → World → Prop} {a : Act} {w : World} (hd : ∀ (j : Nat) (o : Oper), ops[j]? = some o → ∀ c, o.op ≠ .defer c) (hL : ¬ LetsOut Q) (hK : ∀ a w, K a w → K' a w)
    (h : wpOp P ops Q i K a w) : wpOpIn (Fence.wide.inRound l) n P ops Q i K' a w := by
  unfold wpOp at h
  unfold wpOpIn
  cases ho : ops[i]? with
  | none => simp only [ho] at h ⊢; exact hK _ _ h
  | some o =>
    simp only [ho] at h ⊢
    by_cases hw : Region.wanted o (yielded ops a.tmps) = true
    · simp only [hw, if_true] at h ⊢
      rcases h with h | ⟨_, h⟩
      · refine ⟨fun _ _ => trivial, ?_⟩
        rw [Oper.semAt_plain _ _ _ (hd i o ho)]
        unfold Oper.wp at h
        generalize (execOp a.eval o).run P w = r at h
        cases r with
        | ok x w' =>
          cases x <;> simp only [Oper.upon, Oper.uponIn] at h ⊢
          case value u => exact hK _ _ h
          case skip => exact hK _ _ h
          case defer d => exact hK _ _ h
          case enter f args =>
            refine ⟨fun e => (by cases e), ?_⟩
            have hc : CallsIn Fence.wide (n - 1) P f args w' _ := callsIn_wide.2 h
            refine CallsIn.mono (F := Fence.wide.inRound l) hc fun e w'' he => ?_
            cases e with
            | returned v => exact hK _ _ he
            | panicked c => exact he
            | outgrown => exact he
          case row row args => exact ⟨fun e => (by cases e), fun c cs _ => by
            obtain ⟨v, w2, hr, hs⟩ := h c cs
            exact ⟨v, w2, hK _ _ hr, stepsIn_wide.2 hs⟩⟩
        | halt x w' =>
          cases x <;> simp only [Oper.upon, Oper.uponIn] at h ⊢
          case panic u => exact h
      · exact (hL h).elim
    · simp only [hw] at h ⊢
      exact ⟨fun _ _ => trivial, hK _ _ h⟩
theorem anyIn_of_any {l n : Nat} (hd : ∀ (j : Nat) (o : Oper), ops[j]? = some o → ∀ c, o.op ≠ .defer c) (hL : ¬ LetsOut Q) : ∀ (fuel : Nat) (listed : Array Bool) (a : Act) (w : World), wpAny P md ops Q fuel listed a w → wpAnyIn (Fence.wide.inRound l) n P md ops Q fuel listed a w
  | 0, _, _, _, h => h
  | fuel + 1, _, _, _, h => ⟨h.1, fun i hi => opIn_of_op hd hL (fun a' w' h' => anyIn_of_any hd hL fuel _ a' w' h') (h.2 i hi)⟩

/-- The end that is asked of such a region: off its end, and nothing else. -/
def Only (K : Act → World → Prop) : Exit → Act → World → Prop
  | .normal, a, w => K a w
  | _, _, _ => False
theorem Only.intro {K : Act → World → Prop} {a : Act} {w : World} (h : K a w) : Only K .normal a w := h
theorem then_normal {K : Act → World → Prop} {Q' : Exit → Act → World → Prop} {a : Act} {w : World} (h : K a w) : Exit.then K Q' .normal a w := h
def isDefer : Op → Bool
  | .defer _ => true
  | _ => false
theorem noDefer_spec (h : ops.all (fun o => !isDefer o.op) = true) : ∀ (j : Nat) (o : Oper), ops[j]? = some o → ∀ c, o.op ≠ .defer c := by
  intro j o ho c hc
  have := Array.all_eq_true'.1 h o (Array.mem_of_getElem? ho)
  rw [hc] at this
  simp [isDefer] at this
/-- THE BEGINNING. -/
theorem draw_in {l n id : Nat} {a : Act} {w : World} (S : World → Prop) (E : Nat → Bool) (hm : P.follows .mixedOrders = true) (hd : ops.all (fun o => !isDefer o.op) = true)
    (h : AnyE P .any ops (Only (Q .normal)) S E ops.size (Array.replicate ops.size false) a { w with drawn := w.drawn + 1 }) : (Code.region id ops true).wpIn (Fence.wide.inRound l) n P Q a w := by
  have h1 := wpIn_region_any (F := Fence.wide.inRound l) (n := n) (id := id) (Q := Only (Q .normal)) hm (anyIn_of_any (noDefer_spec hd) (by rintro ⟨_, _, h⟩; exact h) _ _ _ _ (any_of_E _ _ _ _ h))
  refine wpIn_mono h1 ?_
  intro e a' w' hq
  cases e with
  | normal => exact hq
  | ret => exact hq.elim
  | exit id => exact hq.elim
  | goto t => exact hq.elim
  | panic ch => exact hq.elim
  | outgrown => exact hq.elim
end
end Go.Proofs.Qxb6609332a
