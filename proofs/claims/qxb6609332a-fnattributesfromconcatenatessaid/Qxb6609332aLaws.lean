/-
  Seat b6609332a: small laws on rows that the call itself owns: cut to a shorter length, stored into, kept while another block is written.
-/
import Derived.Test.Qxb6609332aBase
import Derived.Deep.AppendLies
namespace Go.Proofs.Qxb6609332a
open Go.RowKit

/-- 'v[:d]' of an owned slice owns the first d elements. -/
theorem owns_take {w : World} {B e size g n cap : Nat} {xs : List Value} (h : w.ownsRow B e size (.slice (some ⟨g, 0, none⟩) n cap) n xs) {d : Nat} (hd : d ≤ n) :
    w.ownsRow B e size (.slice (some ⟨g, 0, none⟩) d cap) d (xs.take (d * size)) := by
  obtain ⟨hl, h2⟩ := h
  rcases h2 with ⟨h', _⟩ | ⟨g', cap', cur, h', hb, hg, hnc, hcm, hcs, htake⟩
  · simp at h'
  · simp only [Value.slice.injEq, Option.some.injEq, Addr.mk.injEq, and_true, true_and] at h'
    obtain ⟨rfl, rfl⟩ := h'
    have hmul : d * size ≤ n * size := Nat.mul_le_mul_right _ hd
    refine ⟨by rw [List.length_take, hl]; omega, .inr ⟨g, cap, cur, rfl, hb, hg, by omega, hcm, hcs, ?_⟩⟩
    rw [← htake, List.take_take, Nat.min_eq_left hmul]
theorem owns_cap {w : World} {B e size g n cap : Nat} {xs : List Value} (h : w.ownsRow B e size (.slice (some ⟨g, 0, none⟩) n cap) n xs) : n ≤ cap ∧ cap ≤ maxLen ∧ B ≤ g ∧ g < w.heap.size := by
  have hlt := h.lt g rfl
  rcases h.2 with ⟨h', _⟩ | ⟨g', cap', cur, h', hb, hg, hnc, hcm, hcs, htake⟩
  · simp at h'
  · simp only [Value.slice.injEq, Option.some.injEq, Addr.mk.injEq, and_true, true_and] at h'
    obtain ⟨rfl, rfl⟩ := h'
    exact ⟨hnc, hcm, hlt.1, hlt.2⟩
theorem grownBy_setCell (w : World) (g j : Nat) (u : Value) : w.grownBy (w.setCell ⟨g, j, none⟩ u) (some g) :=
  ⟨rfl, rfl, rfl, by simp [World.setCell], fun k _ hk => Below.heap_setCell _ _ _ _ (fun e => hk (by rw [e]))⟩
/-- A store into another block. -/
theorem owns_other {w : World} {B e size n : Nat} {v : Value} {xs : List Value} (h : w.ownsRow B e size v n xs) {g j : Nat} (u : Value) (hne : v.ownBlock ≠ some g) : (w.setCell ⟨g, j, none⟩ u).ownsRow B e size v n xs :=
  h.kept (grownBy_setCell w g j u) (.inr hne)
/-- Two rows of different element types lie apart. -/
theorem owns_apart {w : World} {B B' e e' size size' n n' : Nat} {v v' : Value} {xs xs' : List Value} (h : w.ownsRow B e size v n xs) (h' : w.ownsRow B' e' size' v' n' xs') (hne : e ≠ e') {g : Nat} (hv : v.ownBlock = some g) : v'.ownBlock ≠ some g := by
  intro hv'
  rcases h.2 with ⟨rfl, _⟩ | ⟨g1, c1, cur1, rfl, _, hg1, _⟩
  · simp [Value.ownBlock] at hv
  rcases h'.2 with ⟨rfl, _⟩ | ⟨g2, c2, cur2, rfl, _, hg2, _⟩
  · simp [Value.ownBlock] at hv'
  simp only [Value.ownBlock, Option.some.injEq] at hv hv'
  subst hv; subst hv'
  rw [hg1] at hg2
  simp at hg2
  exact hne hg2.2
theorem owns_drewN {w : World} {B e size n : Nat} {v : Value} {xs : List Value} (h : w.ownsRow B e size v n xs) (q : Nat) : (w.drewN q).ownsRow B e size v n xs := h
end Go.Proofs.Qxb6609332a
