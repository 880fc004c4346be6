/-
  Seat b6609332a: the new node linked into its list; the round's end. Plain.
-/
import Derived.Test.Qxb6609332aBuild1
import Derived.Deep.AppendLies
namespace Go.Proofs.Qxb6609332a
open Go.RowKit

section
variable {B : Nat} {W : World} {S : Nat → Pl} {N : Nat} {Ch : Nat → List Nat} {V : Nat → Value} {Z Hd : Nat → Nat}
theorem Arena.hdr_apart (h : Arena B W S N Ch V Z Hd) {x hb ho : Nat} (hx : HdrAt S N Ch V Z x hb ho) : (V x).ownBlock ≠ some hb := by
  rcases hx with ⟨hx, rfl, rfl⟩ | ⟨k, L, m, len, c, rfl, hL, hk, hV, rfl⟩
  · intro e
    obtain ⟨cur, hc⟩ := owns_type (h.rows x) e
    rw [(h.hdr x hx).2] at hc
    simp at hc
  · exact h.apart L _ hb hL (by rw [hV]; rfl)
theorem Arena.hdr_cells (h : Arena B W S N Ch V Z Hd) {x hb ho : Nat} (hx : HdrAt S N Ch V Z x hb ho) : ∃ cs t, (t = 36 ∨ t = 52) ∧ W.heap[hb]? = some (.cells cs t (0, 0)) := by
  rcases hx with ⟨hx, rfl, rfl⟩ | ⟨k, L, m, len, c, rfl, hL, hk, hV, rfl⟩
  · exact ⟨_, 36, .inl rfl, (h.hdr x hx).2⟩
  · obtain ⟨cur, hc⟩ := owns_type (h.rows L) (by rw [hV]; rfl : (V L).ownBlock = some hb)
    exact ⟨cur, 52, .inr rfl, hc⟩
theorem Arena.root_le (h : Arena B W S N Ch V Z Hd) : B ≤ W.heap.size := by
  have h0 := h.hdr 0 (.inl rfl)
  have := lt_of_heap h0.2
  omega
end

theorem cell_ad {w : World} {o : Obj} {p : Addr} {v : Value} (h : w.cell? p = some v) : (w.alloc o).drew.cell? p = some v :=
  (World.cell?_of_block (w := w) (w' := (w.alloc o).drew) (Below.heap_alloc _ _ _ (World.block_lt_of_cell? w p h))).trans h
def z8 : List Value := [.string ⟨#[]⟩, .string ⟨#[]⟩, .pointer none, .string ⟨#[]⟩, .string ⟨#[]⟩, .string ⟨#[]⟩, .pointer none, .slice none 0 0]
theorem info52 : (Try.prog.info? 52).map (fun i => (i.zero, i.size, i.bytes)) = some (some (.agg z8.toArray), 8, 120) := by kernel_rfl
theorem info56 : (Try.prog.info? 56).map (fun i => (i.zero, i.size, i.bytes)) = some (some (.pointer none), 1, 8) := by kernel_rfl

theorem setCell_comm (w : World) {b c i j : Nat} {u v : Value} (h : b ≠ c) : (w.setCell ⟨b, i, none⟩ u).setCell ⟨c, j, none⟩ v = (w.setCell ⟨c, j, none⟩ v).setCell ⟨b, i, none⟩ u := by
  unfold World.setCell
  simp only [World.mk.injEq, and_true]
  apply Array.ext_getElem?
  intro k
  simp only [Array.getElem?_modify]
  by_cases h1 : b = k
  · subst h1
    have : c ≠ b := Ne.symm h
    simp [this]
  · by_cases h2 : c = k
    · subst h2; simp [h]
    · simp [h1, h2]

def put8 (w : World) (g o : Nat) (c0 c1 c2 c3 c4 c5 c6 c7 : Value) : World :=
  (((((((w.setCell ⟨g, o, none⟩ c0).setCell ⟨g, o + 1, none⟩ c1).setCell ⟨g, o + 2, none⟩ c2).setCell ⟨g, o + 3, none⟩ c3).setCell ⟨g, o + 4, none⟩ c4).setCell ⟨g, o + 5, none⟩ c5).setCell ⟨g, o + 6, none⟩ c6).setCell ⟨g, o + 7, none⟩ c7
theorem put8_comm (w : World) {g o hb ho : Nat} {c0 c1 c2 c3 c4 c5 c6 c7 v : Value} (h : hb ≠ g) : put8 (w.setCell ⟨hb, ho, none⟩ v) g o c0 c1 c2 c3 c4 c5 c6 c7 = (put8 w g o c0 c1 c2 c3 c4 c5 c6 c7).setCell ⟨hb, ho, none⟩ v := by
  unfold put8
  rw [setCell_comm _ h, setCell_comm _ h, setCell_comm _ h, setCell_comm _ h, setCell_comm _ h, setCell_comm _ h, setCell_comm _ h, setCell_comm _ h]
theorem put8_other (w : World) {g o b : Nat} {c0 c1 c2 c3 c4 c5 c6 c7 : Value} (h : b ≠ g) : (put8 w g o c0 c1 c2 c3 c4 c5 c6 c7).heap[b]? = w.heap[b]? := by
  unfold put8
  rw [Below.heap_setCell _ _ _ _ h, Below.heap_setCell _ _ _ _ h, Below.heap_setCell _ _ _ _ h, Below.heap_setCell _ _ _ _ h, Below.heap_setCell _ _ _ _ h, Below.heap_setCell _ _ _ _ h, Below.heap_setCell _ _ _ _ h, Below.heap_setCell _ _ _ _ h]
theorem put8_grown (w : World) {g o : Nat} {c0 c1 c2 c3 c4 c5 c6 c7 : Value} : w.grownBy (put8 w g o c0 c1 c2 c3 c4 c5 c6 c7) (some g) :=
  ⟨by simp only [put8, World.setCell], by simp only [put8, World.setCell], by simp only [put8, World.setCell], by simp [put8, World.setCell], fun k _ hk => put8_other w (fun e => hk (by rw [e]))⟩
theorem put8_owns {w : World} {B g n cap : Nat} {xs : List Value} {c0 c1 c2 c3 c4 c5 c6 c7 : Value} (h : w.ownsRow B 52 8 (.slice (some ⟨g, 0, none⟩) (n + 1) cap) (n + 1) (xs ++ z8)) (hl : xs.length = n * 8) :
    (put8 w g (n * 8) c0 c1 c2 c3 c4 c5 c6 c7).ownsRow B 52 8 (.slice (some ⟨g, 0, none⟩) (n + 1) cap) (n + 1) (xs ++ [c0, c1, c2, c3, c4, c5, c6, c7]) := by
  have h8 := ((((((((h.stored (n * 8) c0).1.stored (n * 8 + 1) c1).1.stored (n * 8 + 2) c2).1.stored (n * 8 + 3) c3).1.stored (n * 8 + 4) c4).1.stored (n * 8 + 5) c5).1.stored (n * 8 + 6) c6).1.stored (n * 8 + 7) c7).1
  have e : ((((((((xs ++ z8).set (n * 8) c0).set (n * 8 + 1) c1).set (n * 8 + 2) c2).set (n * 8 + 3) c3).set (n * 8 + 4) c4).set (n * 8 + 5) c5).set (n * 8 + 6) c6).set (n * 8 + 7) c7 = xs ++ [c0, c1, c2, c3, c4, c5, c6, c7] := by
    rw [← hl]
    simp only [List.set_append_right _ _ (Nat.le_refl _), List.set_append_right _ _ (Nat.le_add_right _ _), Nat.sub_self, Nat.add_sub_cancel_left, z8, List.set_cons_zero, List.set_cons_succ]
  rw [e] at h8
  exact h8

theorem Grew.drew {B : Nat} {X W : World} (h : Grew B X W) : Grew B X W.drew := ⟨⟨h.keeps.size, h.keeps.same⟩, ⟨h.below.os, h.below.tape, h.below.output, h.below.size, h.below.block⟩⟩

/-- Behind '*list = append(*list, a)'. -/
def Linked (B k : Nat) (wc : World) (S : Nat → Pl) (Ch : Nat → List Nat) (V : Nat → Value) (Z Hd : Nat → Nat) (x hb ho : Nat) (w5 : World) : Prop :=
  ∃ g cap, Arena B w5 S (k + 1) (put Ch x k) (upd V x (.slice (some ⟨g, 0, none⟩) ((Ch x).length + 1) cap)) Z Hd ∧ w5.cell? ⟨hb, ho, none⟩ = some (.slice (some ⟨g, 0, none⟩) ((Ch x).length + 1) cap) ∧ Grew B wc w5 ∧
    ∀ (b : Nat) (cs : Array Value) (t : Nat), t = 50 ∨ t = 25 ∨ t = 56 → wc.heap[b]? = some (Obj.cells cs t (0, 0)) → w5.heap[b]? = some (Obj.cells cs t (0, 0))

section
variable {B k : Nat} {wc w1 : World} {S : Nat → Pl} {Ch : Nat → List Nat} {V : Nat → Value} {Z Hd : Nat → Nat} {x hb ho g cap : Nat} {c0 c1 c2 c3 c4 c5 c6 c7 : Value}
theorem linked_of (hA : Arena B wc S (k + 1) Ch V Z Hd) (hm : ∀ y, ∀ j ∈ Ch y, y ≤ 3 * j) (huq : ∀ y z j, j ∈ Ch y → j ∈ Ch z → y = z) (hnd : ∀ y, (Ch y).Nodup) (hxn : x ≤ 3 * k) (hH : HdrAt S (k + 1) Ch V Z x hb ho)
    (hnc : nodeCells S V Z Hd k = [c0, c1, c2, c3, c4, c5, c6, c7])
    (hown : w1.ownsRow B 52 8 (.slice (some ⟨g, 0, none⟩) ((Ch x).length + 1) cap) ((Ch x).length + 1) ((Ch x).flatMap (nodeCells S V Z Hd) ++ z8))
    (hgrow : (wc.alloc (.cells z8.toArray 52)).drew.grownBy w1 (V x).ownBlock) (hat : (V x).ownBlock = some g ∨ g = wc.heap.size + 1) :
    Linked B k wc S Ch V Z Hd x hb ho ((put8 w1 g ((Ch x).length * 8) c0 c1 c2 c3 c4 c5 c6 c7).setCell ⟨hb, ho, none⟩ (.slice (some ⟨g, 0, none⟩) ((Ch x).length + 1) cap)) := by
  have hBs := hA.root_le
  have hsz : (wc.alloc (.cells z8.toArray 52)).drew.heap.size = wc.heap.size + 1 := by simp
  have hkeep : ∀ b, b < wc.heap.size → (V x).ownBlock ≠ some b → (put8 w1 g ((Ch x).length * 8) c0 c1 c2 c3 c4 c5 c6 c7).heap[b]? = wc.heap[b]? := fun b hb hne => by
    rw [put8_other _ (fun e => ?_), hgrow.block b (by omega) (fun e => hne e.symm)]
    · exact Below.heap_alloc _ _ _ hb
    · subst e
      rcases hat with h | h
      · exact hne h
      · omega
  have hlink := hA.link hm huq hnd hxn (Nat.lt_succ_self k) hH hkeep (hat.elim Or.inl (fun h => Or.inr (by omega))) (by rw [hnc]; exact put8_owns hown (hA.rows x).1)
  have hH' : HdrAt S (k + 1) (put Ch x k) (upd V x (.slice (some ⟨g, 0, none⟩) ((Ch x).length + 1) cap)) Z x hb ho := by
    rcases hH with h | ⟨j, L, m, len, c, hx, hL, hk, hV, ho'⟩
    · exact .inl h
    · exact .inr ⟨j, L, m, len, c, hx, hL, by rw [put_other hL]; exact hk, by rw [upd_other hL]; exact hV, ho'⟩
  have hcell := (hlink.hdrCell hH').1
  rw [upd_same] at hcell
  have hbx := hA.hdr_apart hH
  obtain ⟨cs0, t0, ht0, hcs0⟩ := hA.hdr_cells hH
  have hblt := lt_of_heap hcs0
  have hhb : B ≤ hb := (hA.hdrCell hH).2.2.2
  refine ⟨g, cap, hlink, hcell, ?_, fun b cs t ht hb' => ?_⟩
  · have g1 : Grew B wc (wc.alloc (.cells z8.toArray 52)).drew := ((Grew.refl B wc).alloc hBs _).drew
    have g2 := g1.trans (Grew.of_grownBy hgrow (by omega) (fun r e => by
      obtain ⟨cur, hc⟩ := owns_type (hA.rows x) e
      exact ⟨((hA.rows x).lt r e).1, cur, 52, (Below.heap_alloc _ _ _ (lt_of_heap hc)).trans hc⟩))
    have hw1 : B ≤ w1.heap.size := by have := hgrow.size; omega
    have g3 := g2.trans (Grew.of_grownBy (put8_grown w1 (g := g) (o := (Ch x).length * 8) (c0 := c0) (c1 := c1) (c2 := c2) (c3 := c3) (c4 := c4) (c5 := c5) (c6 := c6) (c7 := c7)) hw1 (fun r e => by
      cases e
      obtain ⟨cur, hc⟩ := owns_type hown (g := g) rfl
      exact ⟨(hown.lt g rfl).1, cur, 52, hc⟩))
    exact g3.setCell (by have := (put8_grown w1 (g := g) (o := (Ch x).length * 8) (c0 := c0) (c1 := c1) (c2 := c2) (c3 := c3) (c4 := c4) (c5 := c5) (c6 := c6) (c7 := c7)).size; omega) _ hhb ((hkeep hb hblt hbx).trans hcs0)
  · have hne : b ≠ hb := by
      rintro rfl
      rw [hcs0] at hb'
      simp only [Option.some.injEq, Obj.cells.injEq, and_true] at hb'
      obtain ⟨_, rfl⟩ := hb'
      rcases ht0 with h | h <;> subst h <;> rcases ht with h | h | h <;> exact absurd h (by decide)
    rw [Below.heap_setCell _ _ _ _ hne, hkeep b (lt_of_heap hb') ?_]
    · exact hb'
    · intro e
      obtain ⟨cur, hc⟩ := owns_type (hA.rows x) e
      rw [hb'] at hc
      simp only [Option.some.injEq, Obj.cells.injEq, and_true] at hc
      obtain ⟨_, rfl⟩ := hc
      rcases ht with h | h | h <;> exact absurd h (by decide)
end

/-- The round's end. -/
theorem round_of {B k d : Nat} {w5 w7 : World} {S : Nat → Pl} {Ch : Nat → List Nat} {V : Nat → Value} {Z Hd : Nat → Nat} {os : List Nat} {st st2 : List Fr} {ps : List Value} {vo1 : Value} {g cap g2 cap2 L : Nat}
    (hC : Comb Ch S k os st) (hpre : wfPre st (S k) = some st2) (hst2 : wfTo S (k + 1) = some (st2 ++ [(S k).fr])) (hO : OpenAt Ch V os ps) (hpsl : ps.length = os.length) (hd : (S k).depth = d) (hdl : d ≤ os.length)
    (hA : Arena B w5 S (k + 1) (put Ch (target os (S k)) k) (upd V (target os (S k)) (.slice (some ⟨g, 0, none⟩) L cap)) Z Hd) (hZ : Z 0 = B)
    (hb3 : w5.heap[B + 1]? = some (.cells #[.pointer (some ⟨B, 0, none⟩)] 25 (0, 0))) (hb4 : w5.heap[B + 2]? = some (.cells #[vo1] 50 (0, 0))) (hvo : w5.ownsRow B 56 1 vo1 d (ps.take d)) (o : Obj)
    (hgrow : (w5.alloc o).drew.grownBy w7 vo1.ownBlock) (hown : w7.ownsRow B 56 1 (.slice (some ⟨g2, 0, none⟩) (d + 1) cap2) (d + 1) (ps.take d ++ [.pointer (some ⟨g, (Ch (target os (S k))).length * 8, none⟩)])) :
    BInv B S (k + 1) (w7.setCell ⟨B + 2, 0, none⟩ (.slice (some ⟨g2, 0, none⟩) (d + 1) cap2)) ∧ Grew B w5 (w7.setCell ⟨B + 2, 0, none⟩ (.slice (some ⟨g2, 0, none⟩) (d + 1) cap2)) := by
  have hBs := hA.root_le
  have hsz : (w5.alloc o).drew.heap.size = w5.heap.size + 1 := by simp
  have keep : ∀ (b : Nat) (cs : Array Value) (t : Nat), t ≠ 56 → w5.heap[b]? = some (Obj.cells cs t (0, 0)) → w7.heap[b]? = some (Obj.cells cs t (0, 0)) := fun b cs t ht hb => by
    have hlt := lt_of_heap hb
    rw [hgrow.block b (by omega) (fun e => ?_)]
    · exact (Below.heap_alloc _ _ _ hlt).trans hb
    · obtain ⟨cur, hc⟩ := owns_type hvo e.symm
      rw [hb] at hc
      simp only [Option.some.injEq, Obj.cells.injEq, and_true] at hc
      exact ht hc.2
  have keep2 : ∀ (b : Nat) (cs : Array Value) (t : Nat), t ≠ 56 → t ≠ 50 → w5.heap[b]? = some (Obj.cells cs t (0, 0)) → (w7.setCell ⟨B + 2, 0, none⟩ (.slice (some ⟨g2, 0, none⟩) (d + 1) cap2)).heap[b]? = some (Obj.cells cs t (0, 0)) := fun b cs t h1 h2 hb => by
    rw [Below.heap_setCell _ _ _ _ (fun e => ?_)]
    · exact keep b cs t h1 hb
    · subst e
      rw [hb4] at hb
      simp only [Option.some.injEq, Obj.cells.injEq, and_true] at hb
      exact h2 hb.2.symm
  have hb47 := keep _ _ _ (by decide) hb4
  obtain ⟨hcomb, _⟩ := comb_step hC hpre
  have hdn : (S k).depth.toNat = d := by omega
  rw [hdn] at hcomb
  have hlen : (os.take d ++ [k]).length = d + 1 := by simp; omega
  refine ⟨⟨_, _, Z, Hd, _, _, .slice (some ⟨g2, 0, none⟩) (d + 1) cap2, ps.take d ++ [.pointer (some ⟨g, (Ch (target os (S k))).length * 8, none⟩)], hst2, hcomb, hA.kept (fun b cs t ht hb => keep2 b cs t ?_ ?_ hb), hZ, keep2 _ _ _ (by decide) (by decide) hb3, set_one hb47, ?_, open_after hC hpre hO hpsl hd g L cap⟩, ?_⟩
  · rcases ht with rfl | rfl | rfl <;> decide
  · rcases ht with rfl | rfl | rfl <;> decide
  · rw [hlen]
    refine owns_other hown _ (fun e => ?_)
    obtain ⟨cur, hc⟩ := owns_type hown e
    rw [hb47] at hc
    simp at hc
  · have g1 : Grew B w5 (w5.alloc o).drew := ((Grew.refl B w5).alloc hBs _).drew
    have g2 := g1.trans (Grew.of_grownBy hgrow (by omega) (fun r e => by
      obtain ⟨cur, hc⟩ := owns_type hvo e
      exact ⟨(hvo.lt r e).1, cur, 56, (Below.heap_alloc _ _ _ (lt_of_heap hc)).trans hc⟩))
    exact g2.setCell (by have := hgrow.size; omega) _ (by omega) hb47
end Go.Proofs.Qxb6609332a
