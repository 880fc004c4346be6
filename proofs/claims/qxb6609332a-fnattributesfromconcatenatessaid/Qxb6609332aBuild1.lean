/-
  Seat b6609332a: what the pieces of a round leave, plain.
-/
import Derived.Test.Qxb6609332aBuild0
namespace Go.Proofs.Qxb6609332a
open Go.RowKit

theorem wf_prefix {S : Nat → Pl} {len k : Nat} (h : (wfTo S len).isSome = true) (hk : k ≤ len) : (wfTo S k).isSome = true := by
  induction len with
  | zero => obtain rfl : k = 0 := by omega
            exact h
  | succ n ih =>
    by_cases e : k = n + 1
    · subst e; exact h
    · refine ih ?_ (by omega)
      unfold wfTo at h
      cases hn : wfTo S n with
      | none => rw [hn] at h; simp at h
      | some st => rfl
theorem wf_next {S : Nat → Pl} {len k : Nat} {st : List Fr} (h : (wfTo S len).isSome = true) (hk : k < len) (hst : wfTo S k = some st) : ∃ st2, wfPre st (S k) = some st2 ∧ wfTo S (k + 1) = some (st2 ++ [(S k).fr]) := by
  have h1 := wf_prefix h (show k + 1 ≤ len by omega)
  unfold wfTo at h1 ⊢
  rw [hst] at h1 ⊢
  simp only [Option.bind_some, wfStep] at h1 ⊢
  cases hp : wfPre st (S k) with
  | none => rw [hp] at h1; simp at h1
  | some st2 => exact ⟨st2, rfl, rfl⟩

/-- Behind 'open = open[:d]'. -/
structure Mid (B k bp : Nat) (W : World) (S : Nat → Pl) (Ch : Nat → List Nat) (V : Nat → Value) (Z Hd : Nat → Nat) (ps : List Value) (d : Nat) (wc : World) : Prop where
  grew : Grew B W wc
  arena : Arena B wc S k Ch V Z Hd
  box3 : wc.heap[B + 1]? = some (.cells #[.pointer (some ⟨B, 0, none⟩)] 25 (0, 0))
  box4 : ∃ vo, wc.heap[B + 2]? = some (.cells #[vo] 50 (0, 0)) ∧ wc.ownsRow B 56 1 vo d (ps.take d)
  place : wc.heap[bp]? = some (.cells (S k).arr 48 (0, 0))

theorem set_one {W : World} {b : Nat} {v0 v : Value} {t : Nat} (h : W.heap[b]? = some (.cells #[v0] t (0, 0))) : (W.setCell ⟨b, 0, none⟩ v).heap[b]? = some (.cells #[v] t (0, 0)) := by
  simp [World.setCell, Array.getElem?_modify, h]

theorem mid_of {B k bp : Nat} {W : World} {S : Nat → Pl} {Ch : Nat → List Nat} {V : Nat → Value} {Z Hd : Nat → Nat} {ps : List Value} {vo vo' : Value} {d : Nat} (hA : Arena B W S k Ch V Z Hd)
    (hb3 : W.heap[B + 1]? = some (.cells #[.pointer (some ⟨B, 0, none⟩)] 25 (0, 0))) (hb4 : W.heap[B + 2]? = some (.cells #[vo] 50 (0, 0))) (hv : W.ownsRow B 56 1 vo' d (ps.take d)) (hbp : W.heap[bp]? = some (.cells (S k).arr 48 (0, 0))) :
    Mid B k bp W S Ch V Z Hd ps d (W.setCell ⟨B + 2, 0, none⟩ vo') := by
  have hlt := lt_of_heap hb4
  refine ⟨Grew.setCell (Grew.refl _ _) (by omega) _ (by omega) hb4, hA.kept (fun b cs t ht hb => (Below.heap_setCell _ _ _ _ ?_).trans hb), (Below.heap_setCell _ _ _ _ (by simp)).trans hb3, ⟨vo', set_one hb4, owns_other hv _ (fun e => ?_)⟩, (Below.heap_setCell _ _ _ _ ?_).trans hbp⟩
  · rintro rfl
    rw [hb4] at hb
    simp only [Option.some.injEq, Obj.cells.injEq, and_true] at hb
    obtain ⟨_, rfl⟩ := hb
    rcases ht with h | h | h <;> exact absurd h (by decide)
  · obtain ⟨cur, hc⟩ := owns_type hv e
    rw [hb4] at hc
    simp at hc
  · rintro rfl
    rw [hb4] at hbp
    simp at hbp
/-- The new node's box, behind the first test. -/
def Box2 (wc : World) (p : Pl) (w2 : World) : Prop := ∃ z2, w2.heap[wc.heap.size]? = some (.cells #[.string p.key, .string p.dt, aPtr p.block z2, .string p.kind, .string p.raw, .string p.text, .pointer none, .slice none 0 0] 52 (0, 0)) ∧
  (p.block = true → wc.heap.size < z2 ∧ w2.heap[z2]? = some (.cells #[.slice none 0 0] 36 (0, 0))) ∧ Below wc.heap.size wc w2

theorem alloc_two {w : World} (o o' : Obj) : ((w.alloc o).alloc o').heap[w.heap.size]? = some o ∧ ((w.alloc o).alloc o').heap[w.heap.size + 1]? = some o' := by
  refine ⟨(Below.heap_alloc _ _ _ (by simp)).trans (World.alloc_heap_new w _), ?_⟩
  have := World.alloc_heap_new (w.alloc o) o'
  rwa [World.size_alloc] at this
theorem box2_n (w : World) (p : Pl) (h : p.block = false) : Box2 w p (w.alloc (.cells #[.string p.key, .string p.dt, .pointer none, .string p.kind, .string p.raw, .string p.text, .pointer none, .slice none 0 0] 52)) :=
  ⟨0, by rw [h]; exact World.alloc_heap_new w _, fun e => (by rw [h] at e; cases e), (Below.refl _ _).alloc (Nat.le_refl _) _⟩
theorem box2_b (w : World) (p : Pl) (h : p.block = true) : Box2 w p ((w.alloc (.cells #[.string p.key, .string p.dt, .pointer (some ⟨w.heap.size + 1, 0, none⟩), .string p.kind, .string p.raw, .string p.text, .pointer none, .slice none 0 0] 52)).alloc (.cells #[.slice none 0 0] 36)) :=
  ⟨w.heap.size + 1, by rw [h]; exact (alloc_two _ _).1, fun _ => ⟨by omega, (alloc_two _ _).2⟩, ((Below.refl _ _).alloc (Nat.le_refl _) _).alloc (by simp) _⟩

/-- The new node's box and blocks, complete. -/
def Box3 (wc : World) (p : Pl) (w3 : World) : Prop := ∃ z1 z2 hn, w3.heap[wc.heap.size]? = some (.cells #[.string p.key, .string p.dt, aPtr p.block z2, .string p.kind, .string p.raw, .string p.text, aPtr p.hasHead hn, .slice none 0 0] 52 (0, 0)) ∧
  (p.block = true → wc.heap.size ≤ z2 ∧ w3.heap[z2]? = some (.cells #[.slice none 0 0] 36 (0, 0))) ∧ (p.headBlock = true → wc.heap.size ≤ z1 ∧ w3.heap[z1]? = some (.cells #[.slice none 0 0] 36 (0, 0))) ∧
  (p.hasHead = true → wc.heap.size ≤ hn ∧ w3.heap[hn]? = some (.cells #[.string p.hd, aPtr p.headBlock z1] 54 (0, 0))) ∧ (p.headBlock = true → p.block = true → z1 ≠ z2) ∧ Below wc.heap.size wc w3

theorem set_six {W : World} {b : Nat} {c0 c1 c2 c3 c4 c5 c6 c7 v : Value} {t : Nat} (h : W.heap[b]? = some (.cells #[c0, c1, c2, c3, c4, c5, c6, c7] t (0, 0))) : (W.setCell ⟨b, 6, none⟩ v).heap[b]? = some (.cells #[c0, c1, c2, c3, c4, c5, v, c7] t (0, 0)) := by
  simp [World.setCell, Array.getElem?_modify, h]
theorem box3_n (w1 w2 : World) (p : Pl) (z2 : Nat) (ha : w2.heap[w1.heap.size]? = some (.cells #[.string p.key, .string p.dt, aPtr p.block z2, .string p.kind, .string p.raw, .string p.text, .pointer none, .slice none 0 0] 52 (0, 0)))  (hz2 : p.block = true → w1.heap.size < z2 ∧ w2.heap[z2]? = some (.cells #[.slice none 0 0] 36 (0, 0))) (hB : Below w1.heap.size w1 w2) (hhb : p.headBlock = false) (hhh : p.hasHead = false) : Box3 w1 p w2 :=
  ⟨0, z2, 0, by rw [hhh]; exact ha, fun e => ⟨by have := (hz2 e).1; omega, (hz2 e).2⟩, fun e => (by rw [hhb] at e; cases e), fun e => (by rw [hhh] at e; cases e), fun e => (by rw [hhb] at e; cases e), hB⟩
theorem box3_d (w1 w2 : World) (p : Pl) (z2 : Nat) (ha : w2.heap[w1.heap.size]? = some (.cells #[.string p.key, .string p.dt, aPtr p.block z2, .string p.kind, .string p.raw, .string p.text, .pointer none, .slice none 0 0] 52 (0, 0)))  (hz2 : p.block = true → w1.heap.size < z2 ∧ w2.heap[z2]? = some (.cells #[.slice none 0 0] 36 (0, 0))) (hB : Below w1.heap.size w1 w2) (hhb : p.headBlock = false) (hhh : p.hasHead = true) : Box3 w1 p ((w2.setCell ⟨w1.heap.size, 6, none⟩ (.pointer (some ⟨w2.heap.size, 0, none⟩))).alloc (.cells #[.string p.hd, .pointer none] 54)) := by
  have hlt := lt_of_heap ha
  have hs : (w2.setCell ⟨w1.heap.size, 6, none⟩ (.pointer (some ⟨w2.heap.size, 0, none⟩))).heap.size = w2.heap.size := by simp [World.setCell]
  refine ⟨0, z2, w2.heap.size, ?_, fun e => ⟨by have := (hz2 e).1; omega, ?_⟩, fun e => (by rw [hhb] at e; cases e), fun _ => ⟨by omega, ?_⟩, fun e => (by rw [hhb] at e; cases e), (hB.setCell (p := ⟨w1.heap.size, 6, none⟩) (Nat.le_refl _) _).alloc (by rw [hs]; omega) _⟩
  · rw [Below.heap_alloc _ _ _ (by rw [hs]; exact hlt), hhh]
    exact set_six ha
  · have hz := hz2 e
    rw [Below.heap_alloc _ _ _ (by rw [hs]; exact lt_of_heap hz.2), Below.heap_setCell _ _ _ _ (by simp; omega)]
    exact hz.2
  · have := World.alloc_heap_new (w2.setCell ⟨w1.heap.size, 6, none⟩ (.pointer (some ⟨w2.heap.size, 0, none⟩))) (.cells #[.string p.hd, .pointer none] 54)
    rw [hs] at this
    rw [hhb]
    exact this
theorem box3_h (w1 w2 : World) (p : Pl) (z2 : Nat) (ha : w2.heap[w1.heap.size]? = some (.cells #[.string p.key, .string p.dt, aPtr p.block z2, .string p.kind, .string p.raw, .string p.text, .pointer none, .slice none 0 0] 52 (0, 0)))  (hz2 : p.block = true → w1.heap.size < z2 ∧ w2.heap[z2]? = some (.cells #[.slice none 0 0] 36 (0, 0))) (hB : Below w1.heap.size w1 w2) (hhb : p.headBlock = true) (hhh : p.hasHead = true) : Box3 w1 p (((w2.setCell ⟨w1.heap.size, 6, none⟩ (.pointer (some ⟨w2.heap.size, 0, none⟩))).alloc (.cells #[.string p.hd, .pointer (some ⟨w2.heap.size + 1, 0, none⟩)] 54)).alloc (.cells #[.slice none 0 0] 36)) := by
  have hlt := lt_of_heap ha
  have hs : (w2.setCell ⟨w1.heap.size, 6, none⟩ (.pointer (some ⟨w2.heap.size, 0, none⟩))).heap.size = w2.heap.size := by simp [World.setCell]
  have h2 := alloc_two (w := w2.setCell ⟨w1.heap.size, 6, none⟩ (.pointer (some ⟨w2.heap.size, 0, none⟩))) (.cells #[.string p.hd, .pointer (some ⟨w2.heap.size + 1, 0, none⟩)] 54) (.cells #[.slice none 0 0] 36)
  rw [hs] at h2
  refine ⟨w2.heap.size + 1, z2, w2.heap.size, ?_, fun e => ⟨by have := (hz2 e).1; omega, ?_⟩, fun _ => ⟨by omega, h2.2⟩, fun _ => ⟨by omega, by rw [hhb]; exact h2.1⟩, fun _ e => ?_, ((hB.setCell (p := ⟨w1.heap.size, 6, none⟩) (Nat.le_refl _) _).alloc (by rw [hs]; omega) _).alloc (by rw [World.size_alloc, hs]; omega) _⟩
  · rw [Below.heap_alloc _ _ _ (by rw [World.size_alloc, hs]; omega), Below.heap_alloc _ _ _ (by rw [hs]; exact hlt), hhh]
    exact set_six ha
  · have hz := hz2 e
    have := lt_of_heap hz.2
    rw [Below.heap_alloc _ _ _ (by rw [World.size_alloc, hs]; omega), Below.heap_alloc _ _ _ (by rw [hs]; exact this), Below.heap_setCell _ _ _ _ (by simp; omega)]
    exact hz.2
  · have := lt_of_heap (hz2 e).2
    omega
end Go.Proofs.Qxb6609332a
