/-
  Seat b6609332a: zzWalkOne at every node; zzWalkList (function 16), zzWalkBlock (11) over an arena.
-/
import Derived.Test.Qxb6609332aWalker
namespace Go.Proofs.Qxb6609332a
open Go.RowKit

theorem empty_of {b : ByteArray} (h : b.toList.isEmpty = true) : b = ⟨#[]⟩ := by
  have h1 : b.toList = [] := by simpa using h
  cases b with
  | mk a =>
    have h2 : (ByteArray.mk a).data.toList = [] := by rw [← h1]; exact (ByteArray.toList_eq _).symm
    have : a = #[] := by simpa using h2
    rw [this]

/-- zzWalkOne hands on what came, the node's place, and what lies under it. -/
def OneW (w0 : World) (cs : Array Value) (d : Int) (e ih : Bool) (seg : List Pl) : Prop :=
  ∀ (outs : List Pl) (vo : Value) (w : World), Below w0.heap.size w0 w → Outs w0.heap.size w vo outs → outs.length + seg.length ≤ 40000 →
    Calls Try.prog 18 #[.agg cs, .int .i64 d, .bool e, .bool ih, vo] w fun en w' => ∃ vo', en = .returned vo' ∧ Outs w0.heap.size w' vo' (outs ++ seg) ∧ Step w vo w' vo'

theorem one18 (w0 : World) (p : Pl) (z1 z2 hn : Nat) (v1 v2 v3 : Value) (L1 L2 L3 : List Pl) (hd0 : 0 ≤ p.depth) (hd1 : p.depth ≤ 40000)
    (H1 : p.headBlock = true → w0.heap[z1]? = some (.cells #[v1] 36 (0, 0))) (H2 : p.block = true → w0.heap[z2]? = some (.cells #[v2] 36 (0, 0)))
    (Hh : p.hasHead = true → w0.heap[hn]? = some (.cells #[.string p.hd, aPtr p.headBlock z1] 54 (0, 0)))
    (I1 : LW w0 v1 (p.depth + 1) true true L1) (I2 : LW w0 v2 (p.depth + 1) true false L2) (I3 : LW w0 v3 (p.depth + 1) false false L3)
    (E1 : p.headBlock = false → L1 = []) (E2 : p.block = false → L2 = []) :
    OneW w0 #[.string p.key, .string p.dt, aPtr p.block z2, .string p.kind, .string p.raw, .string p.text, aPtr p.hasHead hn, v3] p.depth p.entry p.inHead (p :: (L1 ++ (L2 ++ L3))) := by
  intro outs vo w hb hvo hl
  simp only [List.length_cons, List.length_append] at hl
  cases hbk : p.block with
  | false =>
    have e2 := E2 hbk
    subst e2
    cases hhb : p.headBlock with
    | false =>
      have e1 := E1 hhb
      subst e1
      cases hde : p.hd.toList.isEmpty with
      | true =>
        have hh : p.hasHead = false := by simp [Pl.hasHead, hhb, hde]
        rw [hh]
        exact one_none_n w0 p outs vo w hvo hb hd0 hd1 (empty_of hde) v3 L3 I3 (by simp at hl; omega) hbk hhb
      | false =>
        have hh : p.hasHead = true := by simp [Pl.hasHead, hhb, hde]
        have := Hh hh
        rw [hhb] at this
        rw [hh]
        exact one_dt_n w0 p outs vo w hvo hb hd0 hd1 hn this hde v3 L3 I3 (by simp at hl; omega) hbk hhb
    | true =>
      have hh : p.hasHead = true := by simp [Pl.hasHead, hhb]
      have := Hh hh
      rw [hhb] at this
      rw [hh]
      exact one_blk_n w0 p outs vo w hvo hb hd0 hd1 z1 v1 L1 hn this (H1 hhb) I1 v3 L3 I3 (by simp at hl; omega) hbk hhb
  | true =>
    cases hhb : p.headBlock with
    | false =>
      have e1 := E1 hhb
      subst e1
      cases hde : p.hd.toList.isEmpty with
      | true =>
        have hh : p.hasHead = false := by simp [Pl.hasHead, hhb, hde]
        rw [hh]
        exact one_none_b w0 p outs vo w hvo hb hd0 hd1 (empty_of hde) z2 v2 L2 (H2 hbk) I2 v3 L3 I3 (by simp at hl; omega) hbk hhb
      | false =>
        have hh : p.hasHead = true := by simp [Pl.hasHead, hhb, hde]
        have := Hh hh
        rw [hhb] at this
        rw [hh]
        exact one_dt_b w0 p outs vo w hvo hb hd0 hd1 hn this hde z2 v2 L2 (H2 hbk) I2 v3 L3 I3 (by simp at hl; omega) hbk hhb
    | true =>
      have hh : p.hasHead = true := by simp [Pl.hasHead, hhb]
      have := Hh hh
      rw [hhb] at this
      rw [hh]
      exact one_blk_b w0 p outs vo w hvo hb hd0 hd1 z1 v1 L1 hn this (H1 hhb) I1 z2 v2 L2 (H2 hbk) I2 v3 L3 I3 (by omega) hbk hhb

/-! ### zzWalkList -/
theorem flat_get {S : Nat → Pl} {V : Nat → Value} {Z Hd : Nat → Nat} {k t : Nat} (ht : t < 8) : ∀ {l : List Nat} {m : Nat}, l[m]? = some k → (l.flatMap (nodeCells S V Z Hd))[m * 8 + t]? = (nodeCells S V Z Hd k)[t]?
  | [], m, h => by simp at h
  | j :: l, 0, h => by
    simp at h
    subst h
    rw [List.flatMap_cons, Nat.zero_mul, Nat.zero_add]
    exact List.getElem?_append_left (by rw [nodeCells_length]; exact ht)
  | j :: l, m + 1, h => by
    rw [List.flatMap_cons, List.getElem?_append_right (by rw [nodeCells_length]; omega), nodeCells_length, show (m + 1) * 8 + t - 8 = m * 8 + t by omega]
    exact flat_get ht (by simpa using h)

set_option maxHeartbeats 400000 in
theorem list_none (w0 : World) (ao : Option Addr) (c : Nat) (d : Int) (e ih : Bool) : LW w0 (.slice ao 0 c) d e ih [] := by
  intro outs vo w hb hvo hl
  go_enter Try.func16, Try.ntmps16
  go_wp2
  refine wp_loop_rounds 1 ?_
  rw [rounds_succ]
  go_wp2
  go_ret
  exact ⟨vo, rfl, by simpa using hvo, Step.refl _ _⟩

set_option maxHeartbeats 1000000 in
theorem list_some (w0 : World) (S : Nat → Pl) (V : Nat → Value) (Z Hd : Nat → Nat) (B g c : Nat) (l : List Nat) (seg : Nat → List Pl) (d : Int) (e ih : Bool) (hl : l.length ≤ 40000)
    (hown : w0.ownsRow B 52 8 (.slice (some ⟨g, 0, none⟩) l.length c) l.length (l.flatMap (nodeCells S V Z Hd)))
    (hone : ∀ j ∈ l, OneW w0 (nodeCells S V Z Hd j).toArray d e ih (seg j)) : LW w0 (.slice (some ⟨g, 0, none⟩) l.length c) d e ih (l.flatMap seg) := by
  intro outs vo w hb hvo hlen
  have hg := (owns_cap hown).2.2.2
  have hbd : ∀ m, m ≤ l.length → ((l.take m).flatMap seg).length ≤ (l.flatMap seg).length := fun m _ => by
    conv => rhs; rw [← List.take_append_drop m l, List.flatMap_append, List.length_append]
    omega
  have HO : Hid (w0.ownsRow B 52 8 (.slice (some ⟨g, 0, none⟩) l.length c) l.length (l.flatMap (nodeCells S V Z Hd))) := hown
  have HN : Hid (∀ j ∈ l, OneW w0 (nodeCells S V Z Hd j).toArray d e ih (seg j)) := hone
  have HBD : Hid (∀ m, m ≤ l.length → ((l.take m).flatMap seg).length ≤ (l.flatMap seg).length) := hbd
  have HL : Hid (outs.length + (l.flatMap seg).length ≤ 40000) := hlen
  have HW : Hid (Below w0.heap.size w0 w) := hb
  have HV : Hid (Outs w0.heap.size w vo outs) := hvo
  clear hown hone hbd hlen hb hvo
  go_enter Try.func16, Try.ntmps16
  go_wp2
  go_loopw [4, 11] (fun y i wr => ∃ m : Nat, m ≤ l.length ∧ i = .int .i64 m ∧ Outs w0.heap.size wr y (outs ++ (l.take m).flatMap seg) ∧ Step w vo wr y) (fun _ i _ => l.length - (intOf i).toNat)
  case atStart => exact ⟨0, Nat.zero_le _, rfl, by simpa using HV.out, Step.refl _ _⟩
  case round =>
    obtain ⟨m, hm, rfl, hO, hS⟩ := hrel
    have hBr := hS.below HW.out HV.out HW.out.size
    by_cases hlt : m < l.length
    · obtain ⟨j, hj⟩ : ∃ j, l[m]? = some j := ⟨_, List.getElem?_eq_getElem hlt⟩
      have cc : ∀ t, t < 8 → wr.cell? ⟨g, m * 8 + t, none⟩ = (nodeCells S V Z Hd j)[t]? := fun t ht => by
        rw [hBr.cell (by exact hg), HO.out.cellAt _ (by omega), flat_get ht hj]
      have c0 := cc 0 (by omega)
      have c1 := cc 1 (by omega)
      have c2 := cc 2 (by omega)
      have c3 := cc 3 (by omega)
      have c4 := cc 4 (by omega)
      have c5 := cc 5 (by omega)
      have c6 := cc 6 (by omega)
      have c7 := cc 7 (by omega)
      simp only [nodeCells, Nat.add_zero, List.getElem?_cons_succ, List.getElem?_cons_zero] at c0 c1 c2 c3 c4 c5 c6 c7
      have hbm := HBD.out (m + 1) (by omega)
      have htk : (l.take (m + 1)).flatMap seg = (l.take m).flatMap seg ++ seg j := by
        rw [List.take_succ_eq_append_getElem hlt, List.flatMap_append]
        have : l[m] = j := (List.getElem?_eq_some_iff.1 hj).2
        simp [this]
      have hbound : (outs ++ (l.take m).flatMap seg).length + (seg j).length ≤ 40000 := by
        have := HL.out
        rw [htk] at hbm
        simp only [List.length_append] at hbm ⊢
        omega
      have hC := HN.out j (List.mem_of_getElem? hj) _ _ wr hBr hO hbound
      simp only [nodeCells] at hC
      have HC : Hid (Calls Try.prog 18 #[.agg #[.string (S j).key, .string (S j).dt, aPtr (S j).block (Z (3 * j + 2)), .string (S j).kind, .string (S j).raw, .string (S j).text, aPtr (S j).hasHead (Hd j), V (3 * j + 3)], .int .i64 d, .bool e, .bool ih, u4] wr fun en w' => ∃ vo', en = .returned vo' ∧ Outs w0.heap.size w' vo' ((outs ++ (l.take m).flatMap seg) ++ seg j) ∧ Step wr u4 w' vo') := hC
      have HT : Hid ((l.take (m + 1)).flatMap seg = (l.take m).flatMap seg ++ seg j) := htk
      have HS : Hid (Step w vo wr u4) := hS
      clear cc hbm htk hbound hC hO hS hBr hj
      go_wp2_with fail
      refine HC.out.mono ?_
      rintro en w2 ⟨y, rfl, ho, hs⟩
      have HO2 : Hid (Outs w0.heap.size w2 y ((outs ++ (l.take m).flatMap seg) ++ seg j)) := ho
      have HS2 : Hid (Step w vo w2 y) := HS.out.trans hs
      clear ho hs
      go_wp2
      go_roundw
      case rel => exact ⟨m + 1, by omega, by go_num, by rw [HT.out, ← List.append_assoc]; exact HO2.out, HS2.out⟩
      case measure => simp [intOf]; omega
    · obtain rfl : m = l.length := by omega
      rw [List.take_length] at hO
      go_wp2
      go_ret
      exact ⟨_, rfl, hO, hS⟩

/-! ### The whole arena walked -/
/-- What every list of the arena is walked to: the places of its nodes, in the walk's order. -/
theorem walk_all {B : Nat} {w0 : World} {S : Nat → Pl} {n : Nat} {Ch : Nat → List Nat} {V : Nat → Value} {Z Hd : Nat → Nat} (hA : Arena B w0 S n Ch V Z Hd)
    (hm : ∀ x, ∀ j ∈ Ch x, j < n ∧ x ≤ 3 * j ∧ Fits S x j) (hdep : ∀ j, j < n → 0 ≤ (S j).depth ∧ (S j).depth ≤ 40000) (hlen : ∀ x, (Ch x).length ≤ 40000) :
    ∀ (f x : Nat), n ≤ f + (x + 2) / 3 → LW w0 (V x) (if x = 0 then 0 else (S ((x - 1) / 3)).depth + 1) (decide (x ≠ 0) && decide ((x - 1) % 3 ≠ 2)) (decide (x ≠ 0) && decide ((x - 1) % 3 = 0)) ((ord Ch f x).map S) := by
  have none' : ∀ x d e ih, Ch x = [] → LW w0 (V x) d e ih [] := by
    intro x d e ih hx
    have hr := hA.rows x
    rw [hx] at hr
    rcases owns_form hr with ⟨hv, _⟩ | ⟨g, c, hv⟩
    · rw [hv]; exact list_none w0 _ _ d e ih
    · rw [hv]; exact list_none w0 _ _ d e ih
  intro f
  induction f with
  | zero =>
    intro x hx
    have hx0 : Ch x = [] := by
      cases hc : Ch x with
      | nil => rfl
      | cons j l =>
        have := hm x j (by rw [hc]; simp)
        omega
    exact none' x _ _ _ hx0
  | succ f ih =>
    intro x hx
    by_cases hx0 : Ch x = []
    · rw [ord_empty hx0]; exact none' x _ _ _ hx0
    have hr := hA.rows x
    obtain ⟨g, c, hv⟩ : ∃ g c, V x = .slice (some ⟨g, 0, none⟩) (Ch x).length c := by
      rcases owns_form hr with ⟨_, h0⟩ | h
      · exact (hx0 (List.length_eq_zero_iff.1 h0)).elim
      · exact h
    have emap : (ord Ch (f + 1) x).map S = (Ch x).flatMap fun j => S j :: ((ord Ch f (3 * j + 1)).map S ++ ((ord Ch f (3 * j + 2)).map S ++ (ord Ch f (3 * j + 3)).map S)) := by
      simp [ord, List.map_flatMap]
    rw [emap, hv]
    rw [hv] at hr
    refine list_some w0 S V Z Hd B g c (Ch x) _ _ _ _ (hlen x) hr ?_
    intro j hj
    obtain ⟨hjn, hxj, hfit⟩ := hm x j hj
    have a1 := ih (3 * j + 1) (by omega)
    have a2 := ih (3 * j + 2) (by omega)
    have a3 := ih (3 * j + 3) (by omega)
    simp only [if_neg (show ¬ 3 * j + 1 = 0 by omega), if_neg (show ¬ 3 * j + 2 = 0 by omega), if_neg (show ¬ 3 * j + 3 = 0 by omega), show (3 * j + 1 - 1) / 3 = j by omega, show (3 * j + 2 - 1) / 3 = j by omega, show (3 * j + 3 - 1) / 3 = j by omega,
      show (3 * j + 1 - 1) % 3 = 0 by omega, show (3 * j + 2 - 1) % 3 = 1 by omega, show (3 * j + 3 - 1) % 3 = 2 by omega] at a1 a2 a3
    have n1 : decide (3 * j + 1 ≠ 0) = true := by simp
    have n2 : decide (3 * j + 2 ≠ 0) = true := by simp
    have n3 : decide (3 * j + 3 ≠ 0) = true := by simp
    rw [n1] at a1
    rw [n2] at a2
    rw [n3] at a3
    have gone : ∀ y, Ch y = [] → (ord Ch f y).map S = [] := fun y hy => by rw [ord_empty hy]; rfl
    have e1 : (S j).headBlock = false → (ord Ch f (3 * j + 1)).map S = [] := fun hq => gone _ (by
      cases hc : Ch (3 * j + 1) with
      | nil => rfl
      | cons i l =>
        have hF := (hm (3 * j + 1) i (by rw [hc]; simp)).2.2
        unfold Fits at hF
        rw [if_neg (by omega), show (3 * j + 1 - 1) / 3 = j by omega, show (3 * j + 1 - 1) % 3 = 0 by omega] at hF
        simp [hq] at hF)
    have e2 : (S j).block = false → (ord Ch f (3 * j + 2)).map S = [] := fun hq => gone _ (by
      cases hc : Ch (3 * j + 2) with
      | nil => rfl
      | cons i l =>
        have hF := (hm (3 * j + 2) i (by rw [hc]; simp)).2.2
        unfold Fits at hF
        rw [if_neg (by omega), show (3 * j + 2 - 1) / 3 = j by omega, show (3 * j + 2 - 1) % 3 = 1 by omega] at hF
        simp [hq] at hF)
    have hdj := hdep j hjn
    have hO := one18 w0 (S j) (Z (3 * j + 1)) (Z (3 * j + 2)) (Hd j) (V (3 * j + 1)) (V (3 * j + 2)) (V (3 * j + 3)) _ _ _ hdj.1 hdj.2
      (fun hq => (hA.hdr (3 * j + 1) (.inr ⟨j, hjn, .inl ⟨rfl, hq⟩⟩)).2) (fun hq => (hA.hdr (3 * j + 2) (.inr ⟨j, hjn, .inr ⟨rfl, hq⟩⟩)).2) (fun hq => (hA.heads j hjn hq).2)
      (by simpa using a1) (by simpa using a2) (by simpa using a3) e1 e2
    -- the flags of list x are the node's own
    have hfl : (if x = 0 then (0 : Int) else (S ((x - 1) / 3)).depth + 1) = (S j).depth ∧ (decide (x ≠ 0) && decide ((x - 1) % 3 ≠ 2)) = (S j).entry ∧ (decide (x ≠ 0) && decide ((x - 1) % 3 = 0)) = (S j).inHead := by
      unfold Fits at hfit
      by_cases h0 : x = 0
      · rw [if_pos h0] at hfit
        simp [h0, hfit.1, hfit.2.1, hfit.2.2]
      · rw [if_neg h0] at hfit
        rw [if_neg h0]
        obtain ⟨f1, f2⟩ := hfit
        refine ⟨f1.symm, ?_⟩
        by_cases h1 : (x - 1) % 3 = 0
        · rw [if_pos h1] at f2; simp [h0, h1, f2.1, f2.2.1]
        · rw [if_neg h1] at f2
          by_cases h2 : (x - 1) % 3 = 1
          · rw [if_pos h2] at f2; simp [h0, h2, f2.1, f2.2.1]
          · rw [if_neg h2] at f2
            have h3 : (x - 1) % 3 = 2 := by omega
            simp [h3, f2.1, f2.2]
    rw [hfl.1, hfl.2.1, hfl.2.2]
    exact hO

set_option maxHeartbeats 400000 in
/-- zzWalkBlock: the root block's walk. -/
theorem walk11 (w0 : World) (z : Nat) (v : Value) (L : List Pl) (hz : w0.heap[z]? = some (.cells #[v] 36 (0, 0))) (hl : L.length ≤ 40000) (hL : LW w0 v 0 false false L) :
    Calls Try.prog 11 #[.pointer (some ⟨z, 0, none⟩)] w0 fun en w' => ∃ vo', en = .returned vo' ∧ Outs w0.heap.size w' vo' L ∧ Below w0.heap.size w0 w' := by
  have hc : w0.cell? ⟨z, 0, none⟩ = some v := cell_of_row w0 z 0 _ _ _ hz
  have HL : Hid (LW w0 v 0 false false L) := hL
  clear hL hz
  go_enter Try.func11, Try.ntmps11
  go_wp2_with fail
  have hnil : Outs w0.heap.size w0 (.slice none 0 0) [] := World.ownsRow_nil _ _ _ _
  refine (HL.out [] (.slice none 0 0) w0 (Below.refl _ _) hnil (by simpa using hl)).mono ?_
  rintro en w2 ⟨y, rfl, ho, hs⟩
  have HO : Hid (Outs w0.heap.size w2 y L) := by
    show Outs w0.heap.size w2 y L
    simpa using ho
  have HS : Hid (Below w0.heap.size w0 w2) := hs.below (Below.refl _ _) hnil (Nat.le_refl _)
  clear ho hs hnil
  go_wp2
  go_ret
  exact ⟨y, rfl, HO.out, HS.out⟩
end Go.Proofs.Qxb6609332a
