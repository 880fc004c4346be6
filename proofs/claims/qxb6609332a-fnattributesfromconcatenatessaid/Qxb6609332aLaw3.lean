/-
  Seat b6609332a: ZZAttributesFromSlice (function 8); the walk of what it built; the first law (function 3).
-/
import Derived.Test.Qxb6609332aFrom
import Derived.Test.Qxb6609332aWalkA
namespace Go.Proofs.Qxb6609332a
open Go.RowKit

/-- A block was built from the first len places of S: its root lies at z. -/
def Built (w : World) (S : Nat → Pl) (len z : Nat) : Prop :=
  ∃ (B : Nat) (Ch : Nat → List Nat) (V : Nat → Value) (Z Hd : Nat → Nat) (os : List Nat) (st : List Fr), Comb Ch S len os st ∧ Arena B w S len Ch V Z Hd ∧ Z 0 = z
theorem Built.below {w w' : World} {S : Nat → Pl} {len z : Nat} (h : Built w S len z) (hb : Below w.heap.size w w') : Built w' S len z := by
  obtain ⟨B, Ch, V, Z, Hd, os, st, h1, h2, h3⟩ := h
  exact ⟨B, Ch, V, Z, Hd, os, st, h1, h2.below hb.block, h3⟩

set_option maxHeartbeats 400000 in
theorem slice8 (w : World) (g len : Nat) (S : Nat → Pl) (hlen : len ≤ 40000) (hP : PRow w g len len S) (hg : g < w.heap.size) (hwf : (wfTo S len).isSome = true) :
    Calls Try.prog 8 #[.slice (some ⟨g, 0, none⟩) len len] w fun e w' => ∃ z, e = .returned (.pointer (some ⟨z, 0, none⟩)) ∧ Built w' S len z ∧ Below w.heap.size w w' := by
  have HP : Hid (PRow w g len len S) := hP
  have HW : Hid ((wfTo S len).isSome = true) := hwf
  clear hP hwf
  go_enter Try.func8, Try.ntmps8
  go_wp2_with fail
  refine (values15 _ _ _ _ rfl w).mono ?_
  rintro e w1 ⟨rfl, rfl⟩
  go_wp2_with fail
  refine (from14 (w.alloc (.cells #[.slice (some ⟨g, 0, none⟩) len len] 27)) w.heap.size g len S hlen (by rw [cell_of_row _ w.heap.size 0 _ _ _ (World.alloc_heap_new w _)]; rfl) (pRow_alloc HP.out _) (by simp; omega) (by simp) HW.out).mono ?_
  rintro e w2 ⟨rfl, ⟨Ch, V, Z, Hd, os, st, h1, h2, h3⟩, hb⟩
  have HB : Hid (Built w2 S len (w.alloc (.cells #[.slice (some ⟨g, 0, none⟩) len len] 27)).heap.size) := ⟨_, Ch, V, Z, Hd, os, st, h1, h2, h3⟩
  have HL : Hid (Below w.heap.size w w2) := ((Below.refl _ w).alloc (Nat.le_refl _) _).trans (hb.mono (by simp))
  clear h1 h2 h3 hb
  rw [World.size_alloc] at HB
  go_wp2
  go_ret
  exact ⟨_, rfl, HB.out, HL.out⟩

theorem wf_depth {S : Nat → Pl} {len j : Nat} (h : (wfTo S len).isSome = true) (hj : j < len) : 0 ≤ (S j).depth ∧ (S j).depth ≤ j := by
  obtain ⟨st, hst⟩ := Option.isSome_iff_exists.1 (wf_prefix h (show j ≤ len by omega))
  obtain ⟨st2, hpre, _⟩ := wf_next h hj hst
  have hl := wfTo_len hst
  rcases wfPre_cases hpre with ⟨hz, _⟩ | ⟨k, f, hk, hf, _⟩
  · omega
  · have := (List.getElem?_eq_some_iff.1 hf).1
    omega

theorem walk_built {w : World} {S : Nat → Pl} {len z : Nat} (h : Built w S len z) (hlen : len ≤ 40000) (hwf : (wfTo S len).isSome = true) :
    ∃ v, w.heap[z]? = some (.cells #[v] 36 (0, 0)) ∧ LW w v 0 false false ((List.range len).map S) := by
  obtain ⟨B, Ch, V, Z, Hd, os, st, hC, hA, rfl⟩ := h
  refine ⟨V 0, (hA.hdr 0 (.inl rfl)).2, ?_⟩
  have := walk_all hA hC.mem (fun j hj => by have := wf_depth hwf hj; omega) (fun x => by have := nodup_bound len _ (hC.nodup x) (fun j hj => (hC.mem x j hj).1); omega) (len + 1) 0 (by omega)
  rw [hC.order] at this
  simpa using this

theorem pls_get {L : List Pl} {t i : Nat} {p : Pl} (ht : t < 11) (hi : L[i]? = some p) : (L.flatMap Pl.cells)[i * 11 + t]? = p.cells[t]? := by
  induction L generalizing i with
  | nil => simp at hi
  | cons q L ih =>
    have hq : q.cells.length = 11 := rfl
    cases i with
    | zero =>
      simp at hi
      subst hi
      rw [List.flatMap_cons, Nat.zero_mul, Nat.zero_add]
      exact List.getElem?_append_left (by omega)
    | succ i =>
      rw [List.flatMap_cons, List.getElem?_append_right (by omega), hq, show (i + 1) * 11 + t - 11 = i * 11 + t by omega]
      exact ih (by simpa using hi)
theorem outs_pls {B : Nat} {w : World} {vo : Value} {L : List Pl} {S : Nat → Pl} (h : Outs B w vo L) (hS : ∀ i, i < L.length → L[i]? = some (S i)) : ∃ ao c, vo = .slice ao L.length c ∧ PlsAt w ao L.length S := by
  unfold Outs at h
  rcases owns_form h with ⟨e, h0⟩ | ⟨g, c, e⟩
  · exact ⟨none, 0, by rw [e, h0], .inl h0⟩
  · subst e
    refine ⟨_, c, rfl, .inr ⟨g, 0, rfl, fun i hi => ?_⟩⟩
    have cc : ∀ t, t < 11 → w.cell? ⟨g, 0 + i * 11 + t, none⟩ = (S i).cells[t]? := fun t ht => by
      rw [Nat.zero_add, h.cellAt _ (by omega), pls_get ht (hS i hi)]
    exact ⟨cc 0 (by omega), cc 1 (by omega), cc 2 (by omega), cc 3 (by omega), cc 4 (by omega), cc 5 (by omega), cc 6 (by omega), cc 7 (by omega), cc 8 (by omega), cc 9 (by omega), cc 10 (by omega)⟩
theorem pls_below {w w' : World} {ao : Option Addr} {len : Nat} {S : Nat → Pl} (h : PlsAt w ao len S) (hb : Below w.heap.size w w') : PlsAt w' ao len S := by
  rcases h with rfl | ⟨b, off, rfl, hc⟩
  · exact .inl rfl
  · refine .inr ⟨b, off, rfl, fun i hi => ?_⟩
    have hlt := at_lt (hc i hi)
    have e : ∀ o, w'.cell? ⟨b, o, none⟩ = w.cell? ⟨b, o, none⟩ := fun o => hb.cell (p := ⟨b, o, none⟩) hlt
    unfold At
    simp only [e]
    exact hc i hi

set_option maxHeartbeats 2000000 in
/-- THE FIRST LAW: whatever the places, true. -/
theorem law3 (ao : Option Addr) (len cap : Nat) (S : Nat → Pl) (w : World) (hm : len ≤ maxLen) (hc : PlsAt w ao len S) :
    Calls Try.prog 3 #[.slice ao len cap] w fun e w' => e = .returned (.bool true) ∧ Below w.heap.size w w' := by
  have HC : Hid (PlsAt w ao len S) := hc
  clear hc
  go_enter Try.func3, Try.ntmps3
  go_wp2_with fail
  refine (bytes5 ao len cap S w hm HC.out).mono ?_
  rintro e w1 ⟨⟨r, rfl⟩, hw⟩
  obtain rfl := hw.symm
  cases r with
  | false =>
    go_wp2
    go_ret
    exact ⟨rfl, Below.refl _ _⟩
  | true =>
    go_wp2_with fail
    refine (count6 ao len cap S _ hm HC.out).mono ?_
    rintro e w1 ⟨⟨n, hn0, hn1, hn, rfl⟩, hw⟩
    obtain rfl := hw.symm
    by_cases hnb : n ≤ 1048576
    · have hlen := hn hnb
      clear hn
      have hnb2 : ¬ 1048576 < n := by omega
      go_wp2_with fail
      refine (wf7 ao len cap S _ hlen HC.out).mono ?_
      rintro e w1 ⟨⟨r, rfl, hr⟩, hb1⟩
      cases r with
      | false =>
        clear hr
        have HB : Hid (Below _ _ w1) := hb1
        go_wp2
        go_ret
        exact ⟨rfl, HB.out⟩
      | true =>
        have HW : Hid ((wfTo S len).isSome = true) := hr rfl
        have HB : Hid (Below _ _ w1) := hb1
        clear hr hb1
        go_wp2_with fail
        refine (toPlaces9 ao len cap S w1 (by omega) (pls_below HC.out HB.out)).mono ?_
        rintro e w2 ⟨rfl, hP, hb2⟩
        have HP : Hid (PRow w2 w1.heap.size len len S) := hP
        have HB2 : Hid (Below w1.heap.size w1 w2) := hb2
        have hlt2 : w1.heap.size < w2.heap.size := by obtain ⟨f, hr, _⟩ := hP; exact hr.lt
        clear hP hb2
        go_wp2_with fail
        refine (slice8 w2 w1.heap.size len S (by omega) HP.out hlt2 HW.out).mono ?_
        rintro e w3 ⟨z, rfl, hbt, hb3⟩
        have HT : Hid (Built w3 S len z) := hbt
        have HB3 : Hid (Below w2.heap.size w2 w3) := hb3
        clear hbt hb3
        go_wp2_with fail
        obtain ⟨v, hz, hLW⟩ := walk_built HT.out (by omega) HW.out
        refine (walk11 w3 z v _ hz (by simp; omega) hLW).mono ?_
        rintro e w4 ⟨vo, rfl, ho, hb4⟩
        obtain ⟨ao', c', rfl, hpl⟩ := outs_pls (S := S) ho (fun i hi => by
          have hi' : i < len := by simpa using hi
          simp [hi'])
        simp only [List.length_map, List.length_range] at hpl
        have HPL : Hid (PlsAt w4 ao' len S) := hpl
        have HBW : Hid (Below w.heap.size w w4) := by
          show Below w.heap.size w w4
          have s1 := HB.out.size
          have s2 := HB2.out.size
          have s3 := HB3.out.size
          exact HB.out.trans ((HB2.out.mono s1).trans ((HB3.out.mono (by omega)).trans (hb4.mono (by omega))))
        clear hpl ho hb4 hz hLW
        simp only [List.length_map, List.length_range]
        go_wp2_with fail
        refine (same10 ao' ao c' cap len S w4 hm HPL.out (pls_below HC.out HBW.out)).mono ?_
        rintro e w5 ⟨rfl, q, rfl⟩
        go_wp2
        go_ret
        exact ⟨rfl, ⟨HBW.out.os, HBW.out.tape, HBW.out.output, HBW.out.size, HBW.out.block⟩⟩
    · have hnb2 : 1048576 < n := by omega
      clear hn
      go_wp2
      go_ret
      exact ⟨rfl, Below.refl _ _⟩
end Go.Proofs.Qxb6609332a
