/-
  Seat b6609332a: how the arena lies in memory, and what one more node does to it.
-/
import Derived.Test.Qxb6609332aComb
namespace Go.Proofs.Qxb6609332a
open Go.RowKit

/-- Does a place carry a head? -/
def Pl.hasHead (p : Pl) : Bool := p.headBlock || !p.hd.toList.isEmpty
/-- A pointer to block z, or nil. -/
def aPtr (b : Bool) (z : Nat) : Value := .pointer (if b then some ⟨z, 0, none⟩ else none)
/-- The eight cells of node j's Attribute. -/
def nodeCells (S : Nat → Pl) (V : Nat → Value) (Z Hd : Nat → Nat) (j : Nat) : List Value :=
  [.string (S j).key, .string (S j).dt, aPtr (S j).block (Z (3 * j + 2)), .string (S j).kind, .string (S j).raw, .string (S j).text, aPtr (S j).hasHead (Hd j), V (3 * j + 3)]
/-- The two cells of node j's NodeHead. -/
def headCells (S : Nat → Pl) (Z : Nat → Nat) (j : Nat) : Array Value := #[.string (S j).hd, aPtr (S j).headBlock (Z (3 * j + 1))]
/-- Has list x a block of its own that holds its slice? -/
def HasHdr (S : Nat → Pl) (n x : Nat) : Prop := x = 0 ∨ ∃ j, j < n ∧ ((x = 3 * j + 1 ∧ (S j).headBlock = true) ∨ (x = 3 * j + 2 ∧ (S j).block = true))

structure Arena (B : Nat) (w : World) (S : Nat → Pl) (n : Nat) (Ch : Nat → List Nat) (V : Nat → Value) (Z Hd : Nat → Nat) : Prop where
  rows : ∀ x, w.ownsRow B 52 8 (V x) (Ch x).length ((Ch x).flatMap (nodeCells S V Z Hd))
  apart : ∀ x y g, x ≠ y → (V x).ownBlock = some g → (V y).ownBlock ≠ some g
  hdr : ∀ x, HasHdr S n x → B ≤ Z x ∧ w.heap[Z x]? = some (.cells #[V x] 36 (0, 0))
  heads : ∀ j, j < n → (S j).hasHead = true → B ≤ Hd j ∧ w.heap[Hd j]? = some (.cells (headCells S Z j) 54 (0, 0))
  zinj : ∀ x y, HasHdr S n x → HasHdr S n y → Z x = Z y → x = y
  fresh : ∀ x, 3 * n < x → V x = .slice none 0 0

theorem lt_of_heap {w : World} {b : Nat} {o : Obj} (h : w.heap[b]? = some o) : b < w.heap.size := (Array.getElem?_eq_some_iff.1 h).1
/-- What is owned stays owned where its own block lies unturned. -/
theorem owns_keep {w w' : World} {B e size n : Nat} {v : Value} {xs : List Value} (h : w.ownsRow B e size v n xs) (hk : ∀ b, v.ownBlock = some b → w'.heap[b]? = w.heap[b]?) : w'.ownsRow B e size v n xs := by
  refine ⟨h.1, ?_⟩
  rcases h.2 with hn | ⟨g, cap, cur, rfl, hb, hg, rest⟩
  · exact .inl hn
  · exact .inr ⟨g, cap, cur, rfl, hb, by rw [hk g rfl]; exact hg, rest⟩
theorem owns_type {w : World} {B e size n g : Nat} {v : Value} {xs : List Value} (h : w.ownsRow B e size v n xs) (hv : v.ownBlock = some g) : ∃ cur, w.heap[g]? = some (.cells cur e (0, 0)) := by
  rcases h.2 with ⟨rfl, _⟩ | ⟨g', cap, cur, rfl, hb, hg, rest⟩
  · simp [Value.ownBlock] at hv
  · simp only [Value.ownBlock, Option.some.injEq] at hv
    subst hv
    exact ⟨cur, hg⟩

theorem Arena.below {B : Nat} {w w' : World} {S : Nat → Pl} {n : Nat} {Ch : Nat → List Nat} {V : Nat → Value} {Z Hd : Nat → Nat} (h : Arena B w S n Ch V Z Hd) (hb : ∀ b, b < w.heap.size → w'.heap[b]? = w.heap[b]?) : Arena B w' S n Ch V Z Hd :=
  ⟨fun x => owns_keep (h.rows x) (fun b e => hb b ((h.rows x).lt b e).2), h.apart, fun x hx => ⟨(h.hdr x hx).1, (hb _ (lt_of_heap (h.hdr x hx).2)).trans (h.hdr x hx).2⟩,
   fun j hj hh => ⟨(h.heads j hj hh).1, (hb _ (lt_of_heap (h.heads j hj hh).2)).trans (h.heads j hj hh).2⟩, h.zinj, h.fresh⟩

/-- A new node's own blocks, and the node not yet in any list. -/
theorem Arena.more {B : Nat} {w w' : World} {S : Nat → Pl} {n : Nat} {Ch : Nat → List Nat} {V : Nat → Value} {Z Hd : Nat → Nat} (h : Arena B w S n Ch V Z Hd) (hm : ∀ x, ∀ j ∈ Ch x, j < n) (hB : B ≤ w.heap.size)
    (hb : ∀ b, b < w.heap.size → w'.heap[b]? = w.heap[b]?) (z1 z2 hn : Nat)
    (h1 : (S n).headBlock = true → w.heap.size ≤ z1 ∧ w'.heap[z1]? = some (.cells #[.slice none 0 0] 36 (0, 0)))
    (h2 : (S n).block = true → w.heap.size ≤ z2 ∧ w'.heap[z2]? = some (.cells #[.slice none 0 0] 36 (0, 0)))
    (h3 : (S n).hasHead = true → w.heap.size ≤ hn ∧ w'.heap[hn]? = some (.cells #[.string (S n).hd, aPtr (S n).headBlock z1] 54 (0, 0)))
    (h12 : (S n).headBlock = true → (S n).block = true → z1 ≠ z2) :
    Arena B w' S (n + 1) Ch V (fun x => if x = 3 * n + 1 then z1 else if x = 3 * n + 2 then z2 else Z x) (fun j => if j = n then hn else Hd j) := by
  have hold : ∀ x, HasHdr S n x → ¬ x = 3 * n + 1 ∧ ¬ x = 3 * n + 2 := by
    rintro x (rfl | ⟨j, hj, ⟨rfl, _⟩ | ⟨rfl, _⟩⟩) <;> constructor <;> omega
  have hzlt : ∀ x, HasHdr S n x → Z x < w.heap.size := fun x hx => lt_of_heap (h.hdr x hx).2
  have split : ∀ x, HasHdr S (n + 1) x → HasHdr S n x ∨ (x = 3 * n + 1 ∧ (S n).headBlock = true) ∨ (x = 3 * n + 2 ∧ (S n).block = true) := by
    rintro x (rfl | ⟨j, hj, hc⟩)
    · exact .inl (.inl rfl)
    · by_cases e : j = n
      · subst e
        exact .inr hc
      · exact .inl (.inr ⟨j, by omega, hc⟩)
  refine ⟨fun x => ?_, h.apart, fun x hx => ?_, fun j hj hh => ?_, fun x y hx hy e => ?_, fun x hx => h.fresh x (by omega)⟩
  · have hr := owns_keep (w' := w') (h.rows x) (fun b e => hb b ((h.rows x).lt b e).2)
    have e : (Ch x).flatMap (nodeCells S V (fun x => if x = 3 * n + 1 then z1 else if x = 3 * n + 2 then z2 else Z x) (fun j => if j = n then hn else Hd j)) = (Ch x).flatMap (nodeCells S V Z Hd) := by
      refine flatMap_same fun j hj => ?_
      have := hm x j hj
      simp only [nodeCells, if_neg (show ¬ 3 * j + 2 = 3 * n + 1 by omega), if_neg (show ¬ 3 * j + 2 = 3 * n + 2 by omega), if_neg (show ¬ j = n by omega)]
    rw [e]; exact hr
  · rcases split x hx with hx | ⟨rfl, hq⟩ | ⟨rfl, hq⟩
    · obtain ⟨e1, e2⟩ := hold x hx
      simp only [e1, e2, if_false]
      exact ⟨(h.hdr x hx).1, (hb _ (hzlt x hx)).trans (h.hdr x hx).2⟩
    · simp only [if_true]
      rw [h.fresh _ (by omega)]
      exact ⟨by have := (h1 hq).1; omega, (h1 hq).2⟩
    · simp only [if_neg (show ¬ 3 * n + 2 = 3 * n + 1 by omega), if_true]
      rw [h.fresh _ (by omega)]
      exact ⟨by have := (h2 hq).1; omega, (h2 hq).2⟩
  · by_cases e : j = n
    · subst e
      simp only [if_true, headCells]
      exact ⟨by have := (h3 hh).1; omega, (h3 hh).2⟩
    · simp only [if_neg e, headCells]
      rw [if_neg (by omega), if_neg (by omega)]
      have := h.heads j (by omega) hh
      exact ⟨this.1, (hb _ (lt_of_heap this.2)).trans this.2⟩
  · rcases split x hx with kx | ⟨rfl, hq⟩ | ⟨rfl, hq⟩ <;> rcases split y hy with ky | ⟨rfl, hq'⟩ | ⟨rfl, hq'⟩
    · obtain ⟨a1, a2⟩ := hold x kx
      obtain ⟨b1, b2⟩ := hold y ky
      simp only [a1, a2, b1, b2, if_false] at e
      exact h.zinj x y kx ky e
    · obtain ⟨a1, a2⟩ := hold x kx
      simp only [a1, a2, if_false, if_true] at e
      have := hzlt x kx; have := (h1 hq').1; omega
    · obtain ⟨a1, a2⟩ := hold x kx
      simp only [a1, a2, if_false, if_neg (show ¬ 3 * n + 2 = 3 * n + 1 by omega), if_true] at e
      have := hzlt x kx; have := (h2 hq').1; omega
    · obtain ⟨a1, a2⟩ := hold y ky
      simp only [a1, a2, if_false, if_true] at e
      have := hzlt y ky; have := (h1 hq).1; omega
    · rfl
    · simp only [if_true, if_neg (show ¬ 3 * n + 2 = 3 * n + 1 by omega)] at e
      exact (h12 hq hq' e).elim
    · obtain ⟨a1, a2⟩ := hold y ky
      simp only [a1, a2, if_false, if_neg (show ¬ 3 * n + 2 = 3 * n + 1 by omega), if_true] at e
      have := hzlt y ky; have := (h2 hq).1; omega
    · simp only [if_true, if_neg (show ¬ 3 * n + 2 = 3 * n + 1 by omega)] at e
      exact (h12 hq' hq e.symm).elim
    · rfl

/-- A list's slice turned. -/
def upd (V : Nat → Value) (x : Nat) (v : Value) : Nat → Value := fun y => if y = x then v else V y
theorem upd_same (V : Nat → Value) (x : Nat) (v : Value) : upd V x v x = v := if_pos rfl
theorem upd_other {V : Nat → Value} {x y : Nat} {v : Value} (h : y ≠ x) : upd V x v y = V y := if_neg h

theorem nodeCells_length (S : Nat → Pl) (V : Nat → Value) (Z Hd : Nat → Nat) (j : Nat) : (nodeCells S V Z Hd j).length = 8 := rfl
theorem nodeCells_upd {S : Nat → Pl} {V : Nat → Value} {Z Hd : Nat → Nat} {x j : Nat} {v : Value} (h : 3 * j + 3 ≠ x) : nodeCells S (upd V x v) Z Hd j = nodeCells S V Z Hd j := by
  unfold nodeCells
  rw [upd_other h]
theorem nodeCells_set {S : Nat → Pl} {V : Nat → Value} {Z Hd : Nat → Nat} {j : Nat} (v : Value) : (nodeCells S V Z Hd j).set 7 v = nodeCells S (upd V (3 * j + 3) v) Z Hd j := by
  simp [nodeCells, upd_same]
/-- The contents' slice of the node at place m of a list, turned in the list's cells. -/
theorem flat_set {S : Nat → Pl} {V : Nat → Value} {Z Hd : Nat → Nat} {k : Nat} (v : Value) : ∀ {l : List Nat} {m : Nat}, l[m]? = some k → l.Nodup →
    (l.flatMap (nodeCells S V Z Hd)).set (m * 8 + 7) v = l.flatMap (nodeCells S (upd V (3 * k + 3) v) Z Hd)
  | [], _, h, _ => by simp at h
  | j :: l, 0, h, hn => by
    simp at h
    subst h
    have hj : j ∉ l := (List.nodup_cons.1 hn).1
    rw [List.flatMap_cons, List.flatMap_cons, List.set_append_left _ _ (by rw [nodeCells_length]; omega), Nat.zero_mul, Nat.zero_add, nodeCells_set]
    congr 1
    refine flatMap_same fun i hi => (nodeCells_upd ?_).symm
    intro e
    have : i = j := by omega
    exact hj (this ▸ hi)
  | j :: l, m + 1, h, hn => by
    have hk : l[m]? = some k := by simpa using h
    have hj : j ≠ k := fun e => (List.nodup_cons.1 hn).1 (e ▸ List.mem_of_getElem? hk)
    rw [List.flatMap_cons, List.flatMap_cons, List.set_append_right _ _ (by rw [nodeCells_length]; omega), nodeCells_length, nodeCells_upd (by omega)]
    congr 1
    rw [show (m + 1) * 8 + 7 - 8 = m * 8 + 7 by omega]
    exact flat_set v hk (List.nodup_cons.1 hn).2

/-- Where the slice of list x lies: in a block of its own, or in the cell of its holder's contents. -/
def HdrAt (S : Nat → Pl) (N : Nat) (Ch : Nat → List Nat) (V : Nat → Value) (Z : Nat → Nat) (x hb ho : Nat) : Prop :=
  (HasHdr S N x ∧ hb = Z x ∧ ho = 0) ∨ ∃ k L m len cap, x = 3 * k + 3 ∧ L ≠ x ∧ (Ch L)[m]? = some k ∧ V L = .slice (some ⟨hb, 0, none⟩) len cap ∧ ho = m * 8 + 7

/-- What holds of the slice's own cell. -/
theorem Arena.hdrCell {B : Nat} {w : World} {S : Nat → Pl} {N : Nat} {Ch : Nat → List Nat} {V : Nat → Value} {Z Hd : Nat → Nat} (h : Arena B w S N Ch V Z Hd) {x hb ho : Nat} (hx : HdrAt S N Ch V Z x hb ho) :
    w.cell? ⟨hb, ho, none⟩ = some (V x) ∧ w.frozen? ⟨hb, ho, none⟩ = false ∧ hb < w.heap.size ∧ B ≤ hb := by
  rcases hx with ⟨hx, rfl, rfl⟩ | ⟨k, L, m, len, cap, rfl, hL, hk, hV, rfl⟩
  · have := h.hdr x hx
    exact ⟨by simp [World.cell?, this.2], by simp [World.frozen?, this.2], lt_of_heap this.2, this.1⟩
  · have hr := h.rows L
    have hml := (List.getElem?_eq_some_iff.1 hk).1
    have hlen : len = (Ch L).length := by
      rcases hr.2 with ⟨e, _⟩ | ⟨g, c, cur, e, _⟩
      · rw [hV] at e; simp at e
      · rw [hV] at e; simp at e; exact e.2.1
    subst hlen
    rw [hV] at hr
    have hc := owns_cap hr
    refine ⟨?_, hr.frozenAt _, hc.2.2.2, hc.2.2.1⟩
    rw [hr.cellAt _ (by omega)]
    have : ∀ (l : List Nat) (m : Nat), l[m]? = some k → (l.flatMap (nodeCells S V Z Hd))[m * 8 + 7]? = some (V (3 * k + 3)) := by
      intro l
      induction l with
      | nil => intro m h; simp at h
      | cons j l ih =>
        intro m hm
        cases m with
        | zero =>
          simp at hm
          subst hm
          rw [List.flatMap_cons, List.getElem?_append_left (by rw [nodeCells_length]; omega)]
          rfl
        | succ m =>
          rw [List.flatMap_cons, List.getElem?_append_right (by rw [nodeCells_length]; omega), nodeCells_length, show (m + 1) * 8 + 7 - 8 = m * 8 + 7 by omega]
          exact ih m (by simpa using hm)
    exact this _ _ hk

/-- THE NODE n PUT INTO LIST x: its cells lie at the end of the list's row (w2), and the list's slice has been stored. -/
theorem Arena.link {B : Nat} {W w2 : World} {S : Nat → Pl} {N : Nat} {Ch : Nat → List Nat} {V : Nat → Value} {Z Hd : Nat → Nat} (h : Arena B W S N Ch V Z Hd)
    (hm : ∀ y, ∀ j ∈ Ch y, y ≤ 3 * j) (huq : ∀ y z j, j ∈ Ch y → j ∈ Ch z → y = z) (hnd : ∀ y, (Ch y).Nodup) {x n hb ho g cap : Nat} (hxn : x ≤ 3 * n) (hnN : n < N) (hx : HdrAt S N Ch V Z x hb ho)
    (hkeep : ∀ b, b < W.heap.size → (V x).ownBlock ≠ some b → w2.heap[b]? = W.heap[b]?) (hat : (V x).ownBlock = some g ∨ W.heap.size ≤ g)
    (hown : w2.ownsRow B 52 8 (.slice (some ⟨g, 0, none⟩) ((Ch x).length + 1) cap) ((Ch x).length + 1) ((Ch x).flatMap (nodeCells S V Z Hd) ++ nodeCells S V Z Hd n)) :
    Arena B (w2.setCell ⟨hb, ho, none⟩ (.slice (some ⟨g, 0, none⟩) ((Ch x).length + 1) cap)) S N (put Ch x n) (upd V x (.slice (some ⟨g, 0, none⟩) ((Ch x).length + 1) cap)) Z Hd := by
  generalize hv : Value.slice (some ⟨g, 0, none⟩) ((Ch x).length + 1) cap = v' at *
  have hvb : v'.ownBlock = some g := by rw [← hv]; rfl
  -- the block of the header is not the new row
  have hcell := h.hdrCell hx
  have typ : ∀ {b t : Nat} {cs : Array Value}, W.heap[b]? = some (.cells cs t (0, 0)) → t ≠ 52 → (V x).ownBlock ≠ some b := by
    intro b t cs hbb ht e
    obtain ⟨cur, hc⟩ := owns_type (h.rows x) e
    rw [hbb] at hc
    simp at hc
    exact ht hc.2
  have hbx : (V x).ownBlock ≠ some hb := by
    rcases hx with ⟨hx, rfl, rfl⟩ | ⟨k, L, m, len, c, rfl, hL, hk, hV, rfl⟩
    · exact typ (h.hdr x hx).2 (by decide)
    · exact h.apart L _ hb hL (by rw [hV]; rfl)
  have hbg : hb ≠ g := by
    rcases hat with e | e
    · rintro rfl; exact hbx e
    · have := hcell.2.2.1; omega
  have other : ∀ b, b ≠ hb → (w2.setCell ⟨hb, ho, none⟩ v').heap[b]? = w2.heap[b]? := fun b hne => Below.heap_setCell _ _ _ _ hne
  have keep3 : ∀ b, b < W.heap.size → (V x).ownBlock ≠ some b → b ≠ hb → (w2.setCell ⟨hb, ho, none⟩ v').heap[b]? = W.heap[b]? := fun b h1 h2 h3 => (other b h3).trans (hkeep b h1 h2)
  have chx : ∀ j ∈ Ch x, 3 * j + 3 ≠ x := fun j hj => by have := hm x j hj; omega
  refine ⟨fun y => ?_, fun y z b hyz hy hz => ?_, fun z hz => ?_, fun j hj hh => ?_, h.zinj, fun y hy => ?_⟩
  · by_cases e : y = x
    · subst e
      rw [upd_same, put_same, List.flatMap_append]
      have e1 : (Ch y).flatMap (nodeCells S (upd V y v') Z Hd) = (Ch y).flatMap (nodeCells S V Z Hd) := flatMap_same fun j hj => nodeCells_upd (chx j hj)
      have e2 : [n].flatMap (nodeCells S (upd V y v') Z Hd) = nodeCells S V Z Hd n := by
        simp only [List.flatMap_cons, List.flatMap_nil, List.append_nil]
        exact nodeCells_upd (by omega)
      rw [e1, e2, List.length_append, List.length_singleton]
      exact owns_keep hown (fun b e => other b (by rw [hvb] at e; cases e; exact fun e' => hbg e'.symm))
    · rw [upd_other e, put_other e]
      have hrow2 : w2.ownsRow B 52 8 (V y) (Ch y).length ((Ch y).flatMap (nodeCells S V Z Hd)) :=
        owns_keep (h.rows y) (fun b eb => hkeep b ((h.rows y).lt b eb).2 (h.apart y x b e eb))
      rcases hx with ⟨hx, rfl, rfl⟩ | ⟨k, L, m, len, c, rfl, hL, hk, hV, rfl⟩
      · have e1 : (Ch y).flatMap (nodeCells S (upd V x v') Z Hd) = (Ch y).flatMap (nodeCells S V Z Hd) := flatMap_same fun j hj => nodeCells_upd (by
          rcases hx with rfl | ⟨i, _, ⟨rfl, _⟩ | ⟨rfl, _⟩⟩ <;> omega)
        rw [e1]
        refine owns_keep hrow2 (fun b eb => other b ?_)
        rintro rfl
        obtain ⟨cur, hc⟩ := owns_type (h.rows y) eb
        rw [(h.hdr x hx).2] at hc
        simp at hc
      · by_cases eL : y = L
        · subst eL
          have hlen : len = (Ch y).length := by
            rcases hrow2.2 with ⟨e, _⟩ | ⟨g, c, cur, e, _⟩
            · rw [hV] at e; simp at e
            · rw [hV] at e; simp at e; exact e.2.1
          subst hlen
          rw [hV] at hrow2 ⊢
          have := (hrow2.stored (m * 8 + 7) v').1
          rw [flat_set v' hk (hnd y)] at this
          exact this
        · have e1 : (Ch y).flatMap (nodeCells S (upd V (3 * k + 3) v') Z Hd) = (Ch y).flatMap (nodeCells S V Z Hd) := flatMap_same fun j hj => nodeCells_upd (fun e' => by
            have : j = k := by omega
            subst this
            exact eL (huq y L j hj (List.mem_of_getElem? hk)))
          rw [e1]
          refine owns_keep hrow2 (fun b eb => other b ?_)
          rintro rfl
          exact h.apart y L b eL eb (by rw [hV]; rfl)
  · by_cases ey : y = x
    · subst ey
      rw [upd_same, hvb] at hy
      cases hy
      rw [upd_other (fun e => hyz e.symm)] at hz
      rcases hat with e | e
      · exact h.apart y z g hyz e hz
      · have := ((h.rows z).lt g hz).2; omega
    · rw [upd_other ey] at hy
      by_cases ez : z = x
      · subst ez
        rw [upd_same, hvb] at hz
        cases hz
        rcases hat with e | e
        · exact h.apart y z g hyz hy e
        · have := ((h.rows y).lt g hy).2; omega
      · rw [upd_other ez] at hz
        exact h.apart y z b hyz hy hz
  · have hz' := h.hdr z hz
    refine ⟨hz'.1, ?_⟩
    by_cases e : z = x
    · subst e
      rw [upd_same]
      rcases hx with ⟨hx, rfl, rfl⟩ | ⟨k, L, m, len, c, rfl, hL, hk, hV, rfl⟩
      · have := hkeep (Z z) (lt_of_heap hz'.2) hbx
        rw [hz'.2] at this
        simp [World.setCell, Array.getElem?_modify, this]
      · exfalso
        rcases hz with h0 | ⟨i, _, ⟨h0, _⟩ | ⟨h0, _⟩⟩ <;> omega
    · rw [upd_other e]
      refine (keep3 _ (lt_of_heap hz'.2) (typ hz'.2 (by decide)) ?_).trans hz'.2
      rcases hx with ⟨hx, rfl, rfl⟩ | ⟨k, L, m, len, c, rfl, hL, hk, hV, rfl⟩
      · exact fun e' => e (h.zinj z x hz hx e')
      · rintro rfl
        obtain ⟨cur, hc⟩ := owns_type (h.rows L) (by rw [hV]; rfl : (V L).ownBlock = some (Z z))
        rw [hz'.2] at hc
        simp at hc
  · have hj' := h.heads j hj hh
    refine ⟨hj'.1, (keep3 _ (lt_of_heap hj'.2) (typ hj'.2 (by decide)) ?_).trans hj'.2⟩
    rcases hx with ⟨hx, rfl, rfl⟩ | ⟨k, L, m, len, c, rfl, hL, hk, hV, rfl⟩
    · intro e'
      have := (h.hdr x hx).2
      rw [← e', hj'.2] at this
      simp at this
    · rintro rfl
      obtain ⟨cur, hc⟩ := owns_type (h.rows L) (by rw [hV]; rfl : (V L).ownBlock = some (Hd j))
      rw [hj'.2] at hc
      simp at hc
  · rw [upd_other (by omega)]
    exact h.fresh y hy
end Go.Proofs.Qxb6609332a
