/-
  Seat b6609332a: the invariant of AttributesFrom's loop, and the plain steps that a round takes.
-/
import Derived.Test.Qxb6609332aArena
import Derived.Test.Qxb6609332aLoop
namespace Go.Proofs.Qxb6609332a
open Go.RowKit

/-- What a piece of a round does to memory: below B nothing turns; what is no block of cells stays. -/
structure Grew (B : Nat) (W W' : World) : Prop where
  keeps : KeepsFrom B W W'
  below : Below B W W'
theorem Grew.refl (B : Nat) (W : World) : Grew B W W := ⟨KeepsFrom.refl _ _, Below.refl _ _⟩
theorem Grew.trans {B : Nat} {X Y Z : World} (h : Grew B X Y) (k : Grew B Y Z) : Grew B X Z := ⟨h.keeps.trans k.keeps, h.below.trans k.below⟩
theorem Grew.of_grownBy {B : Nat} {W W' : World} {row : Option Nat} (hg : W.grownBy W' row) (hB : B ≤ W.heap.size) (hrow : ∀ r, row = some r → B ≤ r ∧ ∃ cs t, W.heap[r]? = some (.cells cs t (0, 0))) : Grew B W W' := by
  refine ⟨⟨hg.size, fun k o _ hk ho => (hg.block k (lt_of_heap hk) (fun e => ?_)).trans hk⟩, ⟨hg.os, hg.tape, hg.output, hg.size, fun k hk => hg.block k (by omega) (fun e => ?_)⟩⟩
  · obtain ⟨_, cs, t, h⟩ := hrow k e.symm
    rw [h] at hk
    cases hk
    cases ho
  · have := (hrow k e.symm).1
    omega
theorem Grew.alloc {B : Nat} {X W : World} (h : Grew B X W) (hB : B ≤ W.heap.size) (o : Obj) : Grew B X (W.alloc o) :=
  h.trans (Grew.of_grownBy (row := none) ⟨rfl, rfl, rfl, by simp, fun k hk _ => Below.heap_alloc _ _ _ hk⟩ hB (fun _ e => by cases e))
theorem Grew.setCell {B : Nat} {X W : World} (h : Grew B X W) (hB : B ≤ W.heap.size) {b j : Nat} (u : Value) (hb : B ≤ b) {cs : Array Value} {t : Nat} (hc : W.heap[b]? = some (.cells cs t (0, 0))) : Grew B X (W.setCell ⟨b, j, none⟩ u) :=
  h.trans (Grew.of_grownBy (grownBy_setCell W b j u) hB (fun r e => by cases e; exact ⟨hb, cs, t, hc⟩))
theorem Grew.old {B : Nat} {W W' : World} (h : Below W.heap.size W W') (hB : B ≤ W.heap.size) : Grew B W W' :=
  ⟨⟨h.size, fun _ _ _ hk _ => (h.block _ (lt_of_heap hk)).trans hk⟩, h.mono hB⟩

theorem Arena.kept {B : Nat} {w w' : World} {S : Nat → Pl} {n : Nat} {Ch : Nat → List Nat} {V : Nat → Value} {Z Hd : Nat → Nat} (h : Arena B w S n Ch V Z Hd)
    (hk : ∀ (b : Nat) (cs : Array Value) (t : Nat), t = 52 ∨ t = 36 ∨ t = 54 → w.heap[b]? = some (Obj.cells cs t (0, 0)) → w'.heap[b]? = some (Obj.cells cs t (0, 0))) : Arena B w' S n Ch V Z Hd :=
  ⟨fun x => owns_keep (h.rows x) (fun b e => by
      obtain ⟨cur, hc⟩ := owns_type (h.rows x) e
      rw [hc]; exact hk b cur 52 (.inl rfl) hc), h.apart,
   fun x hx => ⟨(h.hdr x hx).1, hk _ _ _ (.inr (.inl rfl)) (h.hdr x hx).2⟩, fun j hj hh => ⟨(h.heads j hj hh).1, hk _ _ _ (.inr (.inr rfl)) (h.heads j hj hh).2⟩, h.zinj, h.fresh⟩

/-- The open nodes' addresses. -/
def OpenAt (Ch : Nat → List Nat) (V : Nat → Value) (os : List Nat) (ps : List Value) : Prop :=
  ∀ (i o : Nat), os[i]? = some o → ∃ (L m b len cap : Nat), (Ch L)[m]? = some o ∧ V L = .slice (some ⟨b, 0, none⟩) len cap ∧ ps[i]? = some (Value.pointer (some ⟨b, m * 8, none⟩))

theorem stack_depth {Ch : Nat → List Nat} {S : Nat → Pl} {n : Nat} {os : List Nat} {st : List Fr} (hC : Comb Ch S n os st) {i o : Nat} (h : os[i]? = some o) : (S o).depth = i := by
  have hl := stack_len hC.stack
  have hi := (List.getElem?_eq_some_iff.1 h).1
  obtain ⟨f, hf⟩ : ∃ f, st[i]? = some f := ⟨_, List.getElem?_eq_getElem (by omega)⟩
  obtain ⟨o', _, _, ho', _, _, _, hd, _⟩ := stack_at hC.stack hf
  rw [h] at ho'
  cases ho'
  simpa using hd

/-- No open node that holds the new one lies in the list that grows. -/
theorem open_other {Ch : Nat → List Nat} {S : Nat → Pl} {n : Nat} {os : List Nat} {st st2 : List Fr} (hC : Comb Ch S n os st) (h : wfPre st (S n) = some st2) {i o : Nat} (hi : os[i]? = some o) (hd : (i : Int) < (S n).depth) : o ∉ Ch (target os (S n)) := by
  intro hm
  have hF := (hC.mem _ _ hm).2.2
  have hdo := stack_depth hC hi
  rcases wfPre_cases h with ⟨hz, _⟩ | ⟨k, f, hk, hf, _⟩
  · omega
  · obtain ⟨o', _, _, ho', _⟩ := stack_at hC.stack hf
    rw [target_succ hk ho'] at hF
    unfold Fits at hF
    rw [if_neg (by omega)] at hF
    have e : (3 * o' + (S n).c + 1 - 1) / 3 = o' := by have := c_le (S n); omega
    rw [e, stack_depth hC ho', hdo] at hF
    have := hF.1
    omega

theorem open_after {Ch : Nat → List Nat} {S : Nat → Pl} {n : Nat} {os : List Nat} {st st2 : List Fr} {V : Nat → Value} {ps : List Value} (hC : Comb Ch S n os st) (h : wfPre st (S n) = some st2) (hO : OpenAt Ch V os ps) (hl : ps.length = os.length) {d : Nat} (hd : (S n).depth = d) (g L cap : Nat) :
    OpenAt (put Ch (target os (S n)) n) (upd V (target os (S n)) (.slice (some ⟨g, 0, none⟩) L cap)) (os.take d ++ [n]) (ps.take d ++ [.pointer (some ⟨g, (Ch (target os (S n))).length * 8, none⟩)]) := by
  have hdl : d ≤ os.length := by
    have := stack_len hC.stack
    rcases wfPre_cases h with ⟨hz, _⟩ | ⟨k, f, hk, hf, _⟩
    · omega
    · have := (List.getElem?_eq_some_iff.1 hf).1; omega
  intro i o hi
  by_cases hid : i < d
  · rw [List.getElem?_append_left (by simp; omega), List.getElem?_take_of_lt hid] at hi
    obtain ⟨L', m, b, len', cap', h1, h2, h3⟩ := hO i o hi
    have hne : L' ≠ target os (S n) := fun e => open_other hC h hi (by omega) (e ▸ List.mem_of_getElem? h1)
    refine ⟨L', m, b, len', cap', by rw [put_other hne]; exact h1, by rw [upd_other hne]; exact h2, ?_⟩
    rw [List.getElem?_append_left (by simp; omega), List.getElem?_take_of_lt hid]
    exact h3
  · have e1 : (os.take d).length = d := by simp; omega
    have e2 : (ps.take d).length = d := by simp; omega
    rw [List.getElem?_append_right (by omega), e1] at hi
    have hi0 : i = d := by
      have := (List.getElem?_eq_some_iff.1 hi).1
      simp at this
      omega
    subst hi0
    simp at hi
    subst hi
    refine ⟨target os (S n), (Ch (target os (S n))).length, g, L, cap, by rw [put_same]; simp, upd_same _ _ _, ?_⟩
    rw [List.getElem?_append_right (by omega), e2]
    simp

/-- THE INVARIANT behind k rounds. -/
def BInv (B : Nat) (S : Nat → Pl) (k : Nat) (W : World) : Prop :=
  ∃ (Ch : Nat → List Nat) (V : Nat → Value) (Z Hd : Nat → Nat) (os : List Nat) (st : List Fr) (vo : Value) (ps : List Value), wfTo S k = some st ∧ Comb Ch S k os st ∧ Arena B W S k Ch V Z Hd ∧ Z 0 = B ∧ W.heap[B + 1]? = some (.cells #[.pointer (some ⟨B, 0, none⟩)] 25 (0, 0)) ∧
    W.heap[B + 2]? = some (.cells #[vo] 50 (0, 0)) ∧ W.ownsRow B 56 1 vo os.length ps ∧ OpenAt Ch V os ps

theorem binv_same {B k : Nat} {S : Nat → Pl} {W W' : World} (h : BInv B S k W) (hs : SameCells W W') : BInv B S k W' := by
  obtain ⟨Ch, V, Z, Hd, os, st, vo, ps, h1, h2, h3, h4, h5, h6, h7, h8⟩ := h
  refine ⟨Ch, V, Z, Hd, os, st, vo, ps, h1, h2, h3.kept (fun b cs t _ hb => hs.2 b _ hb rfl), h4, hs.2 _ _ h5 rfl, hs.2 _ _ h6 rfl, owns_keep h7 (fun b e => ?_), h8⟩
  obtain ⟨cur, hc⟩ := owns_type h7 e
  rw [hc]
  exact hs.2 _ _ hc rfl

theorem binv_zero (S : Nat → Pl) (w : World) : BInv w.heap.size S 0 (((w.alloc (.cells #[.slice none 0 0] 36)).alloc (.cells #[.pointer (some ⟨w.heap.size, 0, none⟩)] 25)).alloc (.cells #[.slice none 0 0] 50)) := by
  refine ⟨fun _ => [], fun _ => .slice none 0 0, fun _ => w.heap.size, fun _ => 0, [], [], .slice none 0 0, [], rfl, comb_zero S, ?_, rfl, ?_, ?_, World.ownsRow_nil _ _ _ _, fun i o h => by cases h⟩
  · have h0 : ((((w.alloc (.cells #[.slice none 0 0] 36)).alloc (.cells #[.pointer (some ⟨w.heap.size, 0, none⟩)] 25)).alloc (.cells #[.slice none 0 0] 50))).heap[w.heap.size]? = some (.cells #[.slice none 0 0] 36 (0, 0)) :=
      (Below.heap_alloc _ _ _ (by simp; omega)).trans ((Below.heap_alloc _ _ _ (by simp)).trans (World.alloc_heap_new w _))
    have hx : ∀ x, HasHdr S 0 x → x = 0 := by
      rintro x (rfl | ⟨j, hj, _⟩)
      · rfl
      · omega
    exact ⟨fun x => World.ownsRow_nil _ _ _ _, fun x y g _ h => by simp [Value.ownBlock] at h, fun x _ => ⟨Nat.le_refl _, h0⟩, fun j hj => by omega, fun x y h1 h2 _ => (hx x h1).trans (hx y h2).symm, fun x _ => rfl⟩
  · have := World.alloc_heap_new (w.alloc (.cells #[.slice none 0 0] 36)) (.cells #[.pointer (some ⟨w.heap.size, 0, none⟩)] 25)
    rw [World.size_alloc] at this
    exact (Below.heap_alloc _ _ _ (by simp)).trans this
  · have := World.alloc_heap_new ((w.alloc (.cells #[.slice none 0 0] 36)).alloc (.cells #[.pointer (some ⟨w.heap.size, 0, none⟩)] 25)) (.cells #[.slice none 0 0] 50)
    rw [World.size_alloc, World.size_alloc] at this
    exact this
end Go.Proofs.Qxb6609332a
