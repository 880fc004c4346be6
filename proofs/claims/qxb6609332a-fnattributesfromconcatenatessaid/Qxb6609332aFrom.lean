/-
  Seat b6609332a: AttributesFrom (function 14): the walk.
-/
import Derived.Test.Qxb6609332aBuild2
import Derived.Test.Qxb6609332aDraw
import Derived.Test.Qxb6609332aWalker2
import Derived.Sort.CutIn
import Derived.Deep.AppendLies
namespace Go.Proofs.Qxb6609332a
open Go.RowKit
attribute [local go_sem] Oper.semAt_some
theorem block_normal {id : Nat} {Q : Exit → Act → World → Prop} {a : Act} {w : World} (h : Q .normal a w) : Exit.inBlock id Q .normal a w := h
theorem HdrAt.after {S : Nat → Pl} {N n : Nat} {Ch : Nat → List Nat} {V : Nat → Value} {Z : Nat → Nat} {y x hb ho : Nat} {v : Value} (hy : y = x) (hH : HdrAt S N Ch V Z x hb ho) : HdrAt S N (put Ch x n) (upd V x v) Z x hb ho := by
  subst hy
  rcases hH with h | ⟨j, L, m, len, c, hx, hL, hk, hV, ho'⟩
  · exact .inl h
  · exact .inr ⟨j, L, m, len, c, hx, hL, by rw [put_other hL]; exact hk, by rw [upd_other hL]; exact hV, ho'⟩
theorem nodup_bound : ∀ (n : Nat) (l : List Nat), l.Nodup → (∀ j ∈ l, j < n) → l.length ≤ n
  | 0, l, _, h => by
    cases l with
    | nil => simp
    | cons j l => exact absurd (h j (by simp)) (by omega)
  | n + 1, l, hn, h => by
    by_cases hm : n ∈ l
    · have h1 := nodup_bound n (l.erase n) (hn.erase n) (fun j hj => by
        have h2 := (hn.mem_erase_iff.1 hj)
        have := h j h2.2
        have := h2.1
        omega)
      rw [List.length_erase_of_mem hm] at h1
      omega
    · have h1 := nodup_bound n l hn (fun j hj => by
        have := h j hj
        have : j ≠ n := fun e => hm (e ▸ hj)
        omega)
      omega
set_option maxRecDepth 100000 in
set_option maxHeartbeats 2000000 in
theorem from14 (w : World) (Bs g len : Nat) (S : Nat → Pl) (hlen : len ≤ 40000) (hBs : w.cell? ⟨Bs, 0, none⟩ = some (.slice (some ⟨g, 0, none⟩) len len)) (hP : PRow w g len len S) (hg : g < w.heap.size) (hB : Bs < w.heap.size) (hwf : (wfTo S len).isSome = true) :
  Calls Try.prog 14 #[.func (.func 17) #[] #[.pointer (some ⟨Bs, 0, none⟩)]] w fun e w' => e = .returned (.pointer (some ⟨w.heap.size, 0, none⟩)) ∧ (∃ Ch V Z Hd os st, Comb Ch S len os st ∧ Arena w.heap.size w' S len Ch V Z Hd ∧ Z 0 = w.heap.size) ∧ Below w.heap.size w w' := by
  refine (callsIn_wide (n := 5)).1 (callsIn_of_wp_marks Try.func14 rfl trivial ?_ rfl)
  simp only [Try.ntmps14, List.size_toArray, List.length_cons, List.length_nil, Nat.reduceAdd, Nat.reduceSub, Array.replicate_succ, Array.replicate_zero, List.push_toArray, List.append_toArray, List.nil_append, List.cons_append]
  gi_wp2
  refine loop_law (m := 3) (Bs := Bs) (g := g) (len := len) (N0 := w.heap.size) (S := S) rfl hlen hg ?_ ?_ ?_ ?_ (fun k W => BInv w.heap.size S k W ∧ Below w.heap.size w W) (fun k W W' h hs hb => ⟨binv_same h.1 hs, h.2.trans hb⟩) ⟨binv_zero S w, (((Below.refl _ _).alloc (Nat.le_refl _) _).alloc (by simp) _).alloc (by simp; omega) _⟩ ?_ ?_ ?_
  · simp; omega
  · rw [← hBs]
    have hb : Below w.heap.size w (((w.alloc (.cells #[.slice none 0 0] 36)).alloc (.cells #[.pointer (some ⟨w.heap.size, 0, none⟩)] 25)).alloc (.cells #[.slice none 0 0] 50)) := (((Below.refl _ _).alloc (Nat.le_refl _) _).alloc (by simp) _).alloc (by simp; omega) _
    exact hb.cell (p := ⟨Bs, 0, none⟩) hB
  · simp; omega
  · exact pRow_alloc (pRow_alloc (pRow_alloc hP _) _) _
  · intro l k W K hK
    simp only [List.setIfInBounds_toArray, List.set_cons_zero, List.set_cons_succ] at hK ⊢
    unfold Pl.agg Pl.arr at *
    gi_wp2
    exact hK
  · intro l k bp W hk hI hbp hbpl hl hlr
    simp only [List.setIfInBounds_toArray, List.set_cons_zero, List.set_cons_succ]
    simp only [World.size_alloc] at hbpl hl ⊢
    clear hBs hP hlr hl
    generalize w.heap.size = B at *
    obtain ⟨⟨Ch, V, Z, Hd, os, st, vo, ps, hst, hC, hA, hZ, hb3, hb4, hvo, hO⟩, hBW⟩ := hI
    have HBW : Hid (Below B w W) := hBW
    clear hBW
    obtain ⟨st2, hpre, hst2⟩ := wf_next hwf hk hst
    have hosl := stack_len hC.stack
    have hpsl : ps.length = os.length := by have := hvo.1; omega
    obtain ⟨d, hd⟩ : ∃ d : Nat, (S k).depth = d := by
      rcases wfPre_cases hpre with ⟨hz, _⟩ | ⟨j, f, hj, _⟩
      · exact ⟨0, hz⟩
      · exact ⟨j + 1, by omega⟩
    have hdl : d ≤ os.length := by
      rcases wfPre_cases hpre with ⟨hz, _⟩ | ⟨k, f, hk, hf, _⟩
      · omega
      · have := (List.getElem?_eq_some_iff.1 hf).1; omega
    have hcb : ∀ X : World, X.heap[bp]? = some (.cells (S k).arr 48 (0, 0)) → X.cell? ⟨bp, 0, none⟩ = some (.int .i64 (d : Int)) ∧ X.cell? ⟨bp, 1, none⟩ = some (.bool (S k).entry) ∧ X.cell? ⟨bp, 2, none⟩ = some (.bool (S k).inHead) ∧ X.cell? ⟨bp, 3, none⟩ = some (.bool (S k).block) ∧ X.cell? ⟨bp, 4, none⟩ = some (.bool (S k).headBlock)
        ∧ X.cell? ⟨bp, 5, none⟩ = some (.string (S k).hd) ∧ X.cell? ⟨bp, 6, none⟩ = some (.string (S k).key) ∧ X.cell? ⟨bp, 7, none⟩ = some (.string (S k).dt) ∧ X.cell? ⟨bp, 8, none⟩ = some (.string (S k).kind) ∧ X.cell? ⟨bp, 9, none⟩ = some (.string (S k).raw) ∧ X.cell? ⟨bp, 10, none⟩ = some (.string (S k).text) ∧ X.cell? ⟨bp, 11, none⟩ = some (.pointer none) := fun X hX => by
      simp only [cell_of_row X bp _ _ _ _ hX, Pl.arr, hd]
      simp
    gi_upto_region 5 with fail
    gi_cut [] from 13 (fun wc => Mid B k bp W S Ch V Z Hd ps d wc)
    case first =>
      have hc0 := (hcb W hbp).1
      have hc4 : W.cell? ⟨B + 2, 0, none⟩ = some vo := by rw [cell_of_row W _ 0 _ _ _ hb4]; rfl
      have hf4 : W.frozen? ⟨B + 2, 0, none⟩ = false := by simp [World.frozen?, hb4]
      clear hcb
      rcases owns_form hvo with ⟨rfl, h0⟩ | ⟨g0, cap0, rfl⟩
      · obtain rfl : d = 0 := by omega
        gi_wp2_with fail
        gi_meet
        exact mid_of hA hb3 hb4 (by simpa using World.ownsRow_nil _ _ _ _) hbp
      · have hcp := owns_cap hvo
        have i1 : (0 : Int) ≤ (d : Int) := by omega
        have i2 : (d : Int) ≤ (cap0 : Int) := by omega
        gi_wp2_with fail
        gi_meet
        exact mid_of hA hb3 hb4 (by simpa using owns_take hvo hdl) hbp
    case rest =>
      clear hA hb3 hb4 hvo hbp
      obtain ⟨hg1, hA, hb3, ⟨vo1, hb4, hvo⟩, hbp⟩ := hcut
      obtain ⟨q0, q1, q2, q3, q4, q5, q6, q7, q8, q9, q10, q11⟩ := hcb wc hbp
      have hbl : bp < wc.heap.size := lt_of_heap hbp
      obtain ⟨w1, e1⟩ : ∃ w1, w1 = wc := ⟨_, rfl⟩
      subst e1
      gi_upto_if 25 with fail
      gi_cut [] from 24 (fun w2 => Box2 w1 (S k) w2)
      case first =>
        cases hbk : (S k).block with
        | false =>
          gi_wp2_with fail
          gi_meet
          exact box2_n _ _ hbk
        | true =>
          gi_wp2_with fail
          gi_meet
          exact box2_b _ _ hbk
      case rest =>
        obtain ⟨z2, ha, hz2, hB2⟩ := hcut
        clear q0 q1 q2 q3 q4 q5 q6 q7 q8 q9 q10 q11
        have hbp2 := (hB2.block bp hbl).trans hbp
        obtain ⟨q0, q1, q2, q3, q4, q5, q6, q7, q8, q9, q10, q11⟩ := hcb wc hbp2
        have hbl2 : bp < wc.heap.size := lt_of_heap hbp2
        have hab2 : w1.heap.size < wc.heap.size := lt_of_heap ha
        have hab6 : wc.cell? ⟨w1.heap.size, 6, none⟩ = some (.pointer none) := by rw [cell_of_row wc _ 6 _ _ _ ha]; rfl
        have hafz : ∀ t, wc.frozen? ⟨w1.heap.size, t, none⟩ = false := fun t => by simp [World.frozen?, ha]
        have hf6 := hafz 6
        have HA2 : Hid (wc.heap[w1.heap.size]? = some (.cells #[.string (S k).key, .string (S k).dt, aPtr (S k).block z2, .string (S k).kind, .string (S k).raw, .string (S k).text, .pointer none, .slice none 0 0] 52 (0, 0))) := ha
        clear ha hafz
        gi_upto_region 9 with fail
        gi_cut [35] from 29 (fun s w3 => s = .bool (S k).hasHead ∧ w3 = wc)
        case first =>
          cases hhb : (S k).headBlock with
          | true =>
            gi_wp2_with fail
            gi_meet
            exact ⟨by simp [Pl.hasHead, hhb], rfl⟩
          | false =>
            gi_wp2_with fail
            gi_meet
            exact ⟨by simp [Pl.hasHead, hhb], rfl⟩
        case rest =>
          obtain ⟨rfl, rfl⟩ := hcut
          obtain ⟨w2, e2⟩ : ∃ w2, w2 = wc := ⟨_, rfl⟩
          subst e2
          gi_upto_if 35 with fail
          gi_cut [] from 29 (fun w3 => Box3 w1 (S k) w3)
          case first =>
            cases hhb : (S k).headBlock with
            | true =>
              have hhh : (S k).hasHead = true := by simp [Pl.hasHead, hhb]
              rw [hhh]
              rw [hhb] at q4
              gi_wp2_with fail
              gi_meet
              exact box3_h _ _ _ z2 HA2.out hz2 hB2 hhb hhh
            | false =>
              rw [hhb] at q4
              cases hhh : (S k).hasHead with
              | true =>
                gi_wp2_with fail
                gi_meet
                exact box3_d _ _ _ z2 HA2.out hz2 hB2 hhb hhh
              | false =>
                gi_wp2_with fail
                gi_meet
                exact box3_n _ _ _ z2 HA2.out hz2 hB2 hhb hhh
          case rest =>
            obtain ⟨z1, z2', hn, ha3, n2, n1, nh, n12, hB3⟩ := hcut
            clear q0 q1 q2 q3 q4 q5 q6 q7 q8 q9 q10 q11 HA2 hz2 hB2 hab6 hf6 hab2 hbl2 hbp2 
            have hA3 := hA.more (w' := wc) (fun x j hj => (hC.mem x j hj).1) (by have := lt_of_heap hb4; omega) hB3.block z1 z2' hn n1 n2 nh n12
            have hfr : V (3 * k + 3) = .slice none 0 0 := hA.fresh _ (by omega)
            obtain ⟨Z', hZ'⟩ : ∃ Z' : Nat → Nat, Z' = fun x => if x = 3 * k + 1 then z1 else if x = 3 * k + 2 then z2' else Z x := ⟨_, rfl⟩
            obtain ⟨Hd', hHd'⟩ : ∃ Hd' : Nat → Nat, Hd' = fun j => if j = k then hn else Hd j := ⟨_, rfl⟩
            rw [← hZ', ← hHd'] at hA3
            have hab : wc.heap[w1.heap.size]? = some (.cells (nodeCells S V Z' Hd' k).toArray 52 (0, 0)) := by
              rw [ha3, hZ', hHd']
              simp [nodeCells, hfr]
            have hZ0 : Z' 0 = B := by rw [hZ']; simp [hZ]
            have hg3 : Grew B W wc := hg1.trans (Grew.old hB3 (by have := lt_of_heap hb4; omega))
            have hbp3 := (hB3.block bp hbl).trans hbp
            have hb33 := (hB3.block _ (lt_of_heap hb3)).trans hb3
            have hb43 := (hB3.block _ (lt_of_heap hb4)).trans hb4
            have hvo3 := owns_keep (w' := wc) hvo (fun b e => hB3.block b (hvo.lt b e).2)
            have hcm : ∀ x, ∀ j ∈ Ch x, x ≤ 3 * j := fun x j hj => (hC.mem x j hj).2.1
            obtain ⟨ab, hab_e⟩ : ∃ ab, ab = w1.heap.size := ⟨_, rfl⟩
            have habl : B + 3 ≤ ab := by rw [hab_e]; have := lt_of_heap hb4; omega
            rw [← hab_e] at hab ⊢
            clear hab_e ha3 n1 n2 nh n12 hB3 hA hvo hb3 hb4 hbp hbl hg1 hZ hHd' hZ'
            clear w1
            obtain ⟨q0, q1, q2, q3, q4, q5, q6, q7, q8, q9, q10, q11⟩ := hcb wc hbp3
            clear q3 q4 q5 q6 q7 q8 q9 q10 q11
            have hbl3 := lt_of_heap hbp3
            have hc3 : wc.cell? ⟨B + 1, 0, none⟩ = some (.pointer (some ⟨B, 0, none⟩)) := by rw [cell_of_row wc _ 0 _ _ _ hb33]; rfl
            have hc4 : wc.cell? ⟨B + 1 + 1, 0, none⟩ = some vo1 := by rw [show B + 1 + 1 = B + 2 from rfl, cell_of_row wc _ 0 _ _ _ hb43]; rfl
            gi_upto_if 56 with fail
            gi_cut [7] from 51 (fun s w4 => (∃ hb ho, s = .pointer (some ⟨hb, ho, none⟩) ∧ HdrAt S (k + 1) Ch V Z' (target os (S k)) hb ho) ∧ w4 = wc)
            case first =>
              rcases Nat.eq_zero_or_pos d with rfl | hdp
              · have hres : HdrAt S (k + 1) Ch V Z' (target os (S k)) B 0 := by
                  rw [target_zero (by omega)]
                  exact .inl ⟨.inl rfl, hZ0.symm, rfl⟩
                gi_wp2_with fail
                gi_meet
                exact ⟨⟨_, _, rfl, hres⟩, rfl⟩
              · obtain ⟨j, rfl⟩ : ∃ j, d = j + 1 := ⟨d - 1, by omega⟩
                obtain ⟨f, hf, hok⟩ : ∃ f, st[j]? = some f ∧ okAt f (S k) = true := by
                  rcases wfPre_cases hpre with ⟨hz, _⟩ | ⟨j', f, hj', hf, hok, _⟩
                  · omega
                  · obtain rfl : j' = j := by omega
                    exact ⟨f, hf, hok⟩
                obtain ⟨o, y, init, ho, _, hfb, hfh, _⟩ := stack_at hC.stack hf
                have ht := target_succ (os := os) (p := S k) (h := j) (o := o) (by omega) ho
                obtain ⟨L, m, b, lenL, capL, hLm, hVL, hps⟩ := hO j o ho
                have hok' : o < k := hC.osLt o (List.mem_of_getElem? ho)
                have hLle := hcm L o (List.mem_of_getElem? hLm)
                obtain ⟨g0, cap0, rfl⟩ : ∃ g0 cap0, vo1 = .slice (some ⟨g0, 0, none⟩) (j + 1) cap0 := by
                  rcases owns_form hvo3 with ⟨_, h0⟩ | h
                  · omega
                  · exact h
                have hcp := owns_cap hvo3
                have hce : wc.cell? ⟨g0, j, none⟩ = some (.pointer (some ⟨b, m * 8, none⟩)) := by
                  rw [hvo3.cellAt j (by omega), List.getElem?_take_of_lt (by omega)]
                  exact hps
                have hrow := hA3.rows L
                rw [hVL] at hrow
                have hml := (List.getElem?_eq_some_iff.1 hLm).1
                have hlL : lenL = (Ch L).length := by
                  rcases owns_form hrow with ⟨e, _⟩ | ⟨_, _, e⟩
                  · cases e
                  · simp at e; exact e.2.1
                subst hlL
                have hnode : ∀ t, t < 8 → wc.cell? ⟨b, m * 8 + t, none⟩ = (nodeCells S V Z' Hd' o)[t]? := fun t ht => by
                  rw [hrow.cellAt _ (by omega), flat_get ht hLm]
                have n2 := hnode 2 (by omega)
                have n6 := hnode 6 (by omega)
                simp only [nodeCells, List.getElem?_cons_succ, List.getElem?_cons_zero] at n2 n6
                have hcj : ((j + 1 : Nat) : Int) - 1 = (j : Int) := by omega
                have hbnd : j + 1 ≤ 40000 := by have := hC.osLen; omega
                cases hih : (S k).inHead with
                | true =>
                  have hhb : (S o).headBlock = true := by
                    unfold okAt at hok
                    rw [hih] at hok
                    simp at hok
                    rw [← hfh]; exact hok.2
                  have hhd := hA3.heads o (by omega) (by simp [Pl.hasHead, hhb])
                  have hcl : wc.cell? ⟨Hd' o, 1, none⟩ = some (.pointer (some ⟨Z' (3 * o + 1), 0, none⟩)) := by
                    rw [cell_of_row wc _ 1 _ _ _ hhd.2, headCells, hhb]; rfl
                  have hhh : (S o).hasHead = true := by simp [Pl.hasHead, hhb]
                  rw [hhh] at n6
                  simp only [aPtr, if_true] at n6
                  rw [hih] at q2
                  have hres : HdrAt S (k + 1) Ch V Z' (target os (S k)) (Z' (3 * o + 1)) 0 := by
                    rw [ht, show (S k).c = 0 by simp [Pl.c, hih]]
                    exact .inl ⟨.inr ⟨o, by omega, .inl ⟨rfl, hhb⟩⟩, rfl, rfl⟩
                  clear hnode hrow hA3 hvo3 hC hO hpre hst hst2 hcb hcm hwf
                  gi_wp2_with fail
                  gi_meet
                  exact ⟨⟨_, _, rfl, hres⟩, rfl⟩
                | false =>
                  rw [hih] at q2
                  cases hen : (S k).entry with
                  | true =>
                    have hbk : (S o).block = true := by
                      unfold okAt at hok
                      rw [hih, hen] at hok
                      simp at hok
                      rw [← hfb]; exact hok
                    rw [hbk] at n2
                    simp only [aPtr, if_true] at n2
                    rw [hen] at q1
                    have hres : HdrAt S (k + 1) Ch V Z' (target os (S k)) (Z' (3 * o + 2)) 0 := by
                      rw [ht, show (S k).c = 1 by simp [Pl.c, hih, hen]]
                      exact .inl ⟨.inr ⟨o, by omega, .inr ⟨rfl, hbk⟩⟩, rfl, rfl⟩
                    clear hnode hrow hA3 hvo3 hC hO hpre hst hst2 hcb hcm hwf
                    gi_wp2_with fail
                    gi_meet
                    exact ⟨⟨_, _, rfl, hres⟩, rfl⟩
                  | false =>
                    rw [hen] at q1
                    have hres : HdrAt S (k + 1) Ch V Z' (target os (S k)) b (m * 8 + 7) := by
                      rw [ht, show (S k).c = 2 by simp [Pl.c, hih, hen]]
                      exact .inr ⟨o, L, m, _, _, rfl, by omega, hLm, hVL, rfl⟩
                    clear hnode hrow hA3 hvo3 hC hO hpre hst hst2 hcb hcm hwf
                    gi_wp2_with fail
                    gi_meet
                    exact ⟨⟨_, _, rfl, hres⟩, rfl⟩
            case rest =>
              obtain ⟨⟨hb, ho, rfl, hH⟩, rfl⟩ := hcut
              clear q0 q1 q2 hc3
              gi_upto_region 21 with fail
              obtain ⟨x, hx⟩ : ∃ x, x = target os (S k) := ⟨_, rfl⟩
              rw [← hx] at hH
              obtain ⟨ao, cx, hVx⟩ : ∃ ao cx, V x = .slice ao (Ch x).length cx := by
                rcases owns_form (hA3.rows x) with ⟨e, h0⟩ | ⟨gx, cx, e⟩
                · exact ⟨none, 0, by rw [e, h0]⟩
                · exact ⟨_, cx, e⟩
              have hrow := hA3.rows x
              have hcell := hA3.hdrCell hH
              rw [hVx] at hrow hcell
              obtain ⟨nx, hnx⟩ : ∃ nx, nx = (Ch x).length := ⟨_, rfl⟩
              rw [← hnx] at hrow hcell
              have hnxl : nx ≤ 40000 := by have := nodup_bound k _ (hC.nodup x) (fun j hj => (hC.mem x j hj).1); omega
              have hxn : x ≤ 3 * k := by rw [hx]; exact (comb_step hC hpre).2
              have HX : Hid (x = target os (S k)) := hx
              have HN : Hid (nx = (Ch x).length) := hnx
              clear hx hnx
              obtain ⟨c0, c1, c2, c3, c4, c5, c6, hnc⟩ : ∃ c0 c1 c2 c3 c4 c5 c6, nodeCells S V Z' Hd' k = [.string c0, .string c1, .pointer c2, .string c3, .string c4, .string c5, .pointer c6, .slice none 0 0] := ⟨(S k).key, (S k).dt, (if (S k).block = true then some ⟨Z' (3 * k + 2), 0, none⟩ else none), (S k).kind, (S k).raw, (S k).text, (if (S k).hasHead = true then some ⟨Hd' k, 0, none⟩ else none), by simp only [nodeCells, aPtr, hfr]⟩
              clear hfr
              have hS0 : ∀ X : World, X.heap[ab]? = some (.cells (nodeCells S V Z' Hd' k).toArray 52 (0, 0)) → X.cell? ⟨ab, 0, none⟩ = some (.string c0) ∧ X.cell? ⟨ab, 1, none⟩ = some (.string c1) ∧ X.cell? ⟨ab, 2, none⟩ = some (.pointer c2) ∧ X.cell? ⟨ab, 3, none⟩ = some (.string c3) ∧ X.cell? ⟨ab, 4, none⟩ = some (.string c4) ∧ X.cell? ⟨ab, 5, none⟩ = some (.string c5) ∧ X.cell? ⟨ab, 6, none⟩ = some (.pointer c6) ∧ X.cell? ⟨ab, 7, none⟩ = some (.slice none 0 0) := fun X hX => by
                rw [hnc] at hX
                simp only [cell_of_row X ab _ _ _ _ hX]
                simp
              obtain ⟨w4, e4⟩ : ∃ w4, w4 = wc := ⟨_, rfl⟩
              subst e4
              gi_cut [] from 88 (fun w5 => Linked B k w4 S Ch V Z' Hd' x hb ho w5)
              case first =>
                obtain ⟨s0, s1, s2, s3, s4, s5, s6, s7⟩ := hS0 w4 hab
                refine draw_in (fun w' => w'.cell? ⟨hb, ho, none⟩ = some (.slice ao nx cx) ∧ w'.cell? ⟨ab, 0, none⟩ = some (.string c0) ∧ w'.cell? ⟨ab, 1, none⟩ = some (.string c1) ∧ w'.cell? ⟨ab, 2, none⟩ = some (.pointer c2) ∧ w'.cell? ⟨ab, 3, none⟩ = some (.string c3) ∧ w'.cell? ⟨ab, 4, none⟩ = some (.string c4) ∧ w'.cell? ⟨ab, 5, none⟩ = some (.string c5) ∧ w'.cell? ⟨ab, 6, none⟩ = some (.pointer c6) ∧ w'.cell? ⟨ab, 7, none⟩ = some (.slice none 0 0)) (fun j => decide (j < 6)) (by kernel_rfl) (by kernel_rfl) ?_
                have hSS := And.intro hcell.1 (And.intro s0 (And.intro s1 (And.intro s2 (And.intro s3 (And.intro s4 (And.intro s5 (And.intro s6 s7)))))))
                refine E_take (i := 0) (oi := _) (v := .pointer (some ⟨hb, ho, none⟩)) rfl (by kernel_rfl) (by kernel_rfl) (by kernel_rfl) (by kernel_rfl) (fun _ _ _ h => h) (Or.inl ⟨by rfl, fun w' hw => ?_⟩) hSS ?_
                · go_simp
                refine E_take (i := 1) (oi := _) (v := .pointer (some ⟨hb, ho, none⟩)) rfl (by kernel_rfl) (by kernel_rfl) (by kernel_rfl) (by kernel_rfl) (fun _ _ _ h => h) (Or.inl ⟨by rfl, fun w' hw => ?_⟩) hSS ?_
                · go_simp
                refine E_take (i := 2) (oi := _) (v := .slice ao nx cx) rfl (by kernel_rfl) (by kernel_rfl) (by kernel_rfl) (by kernel_rfl) (fun _ _ _ h => h) (Or.inl ⟨by rfl, fun w' hw => ?_⟩) hSS ?_
                · obtain ⟨h0, _⟩ := hw
                  go_simp
                refine E_take (i := 3) (oi := _) (v := .agg #[.string c0, .string c1, .pointer c2, .string c3, .string c4, .string c5, .pointer c6, .slice none 0 0]) rfl (by kernel_rfl) (by kernel_rfl) (by kernel_rfl) (by kernel_rfl) (fun _ _ _ h => h) (Or.inl ⟨by rfl, fun w' hw => ?_⟩) hSS ?_
                · obtain ⟨_, h0, h1, h2, h3, h4, h5, h6, h7⟩ := hw
                  go_simp
                refine E_take (i := 4) (oi := _) (v := .int .i64 nx) rfl (by kernel_rfl) (by kernel_rfl) (by kernel_rfl) (by kernel_rfl) (fun _ _ _ h => h) (Or.inl ⟨by rfl, fun w' hw => ?_⟩) hSS ?_
                · go_simp
                refine E_one (i := 5) (by kernel_rfl) rfl rfl (fun K hK => ?_)
                go_simp
                refine hK.out _ _ (fun _ => ⟨cell_ad hcell.1, cell_ad s0, cell_ad s1, cell_ad s2, cell_ad s3, cell_ad s4, cell_ad s5, cell_ad s6, cell_ad s7⟩) ?_
                clear hK K
                refine E_one (i := 6) (by kernel_rfl) rfl rfl (fun K hK => ?_)
                obtain ⟨ti, hi, hz0, hz1, hz2⟩ := info_parts info52
                refine wp_append_lies _ _ _ _ (by rfl) B 52 ti _ 8 120 Try.underlying34 hi hz0 hz1 hz2 rfl (by omega) (.slice ao nx cx) nx _ (by rfl) (owns_keep (w' := (w4.alloc (.cells z8.toArray 52)).drew) hrow (fun b e => Below.heap_alloc _ _ _ (hrow.lt b e).2)) ⟨w4.heap.size, 0, none⟩ 1 1 z8 (by rfl) (by rfl)
                  (World.news_of_block (show (w4.alloc (.cells z8.toArray 52)).drew.heap[w4.heap.size]? = some (.cells z8.toArray 52 (0, 0)) from World.alloc_heap_new w4 _)) (by decide) (by omega) (by unfold maxLen; omega) (by omega) (by have := hA3.root_le; simp; omega) (w4.heap.size + 1) (by simp) ?_
                intro g1 cap1 w1 hown hgrow hat hlt
                refine hK.out _ _ (fun h => absurd h (by decide)) ?_
                clear hK K
                refine E_of_any _ _ _ _ ?_ ?_
                · intro j hj
                  rcases Nat.lt_or_ge j 6 with h | h
                  · exfalso
                    have hj6 : j = 0 ∨ j = 1 ∨ j = 2 ∨ j = 3 ∨ j = 4 ∨ j = 5 := by omega
                    rcases hj6 with rfl | rfl | rfl | rfl | rfl | rfl <;> exact absurd hj (by decide +kernel)
                  · exact decide_eq_false (by omega)
                refine wpAny_take (i := 7) (oi := _) (v := .pointer (some ⟨g1, nx * 8, none⟩)) rfl (by kernel_rfl) (by kernel_rfl) (by kernel_rfl) (fun _ _ _ h => h) (Or.inl ⟨by rfl, fun w' => ?_⟩) ?_
                · have i1 : ¬ ((nx : Int) + 1 ≤ (nx : Int)) := by omega
                  have i2 : (0 : Int) ≤ (nx : Int) := by omega
                  go_simp
                refine wpAny_take (i := 9) (oi := _) (v := .pointer (some ⟨hb, ho, none⟩)) rfl (by kernel_rfl) (by kernel_rfl) (by kernel_rfl) (fun _ _ _ h => h) (Or.inl ⟨by rfl, fun w' => ?_⟩) ?_
                · go_simp
                have hbx := hA3.hdr_apart hH
                rw [hVx, ← HN.out] at hbx
                have hbg : ¬ hb = g1 := fun e => by
                  subst e
                  rcases hat with h | h
                  · exact hbx h
                  · have := hcell.2.2.1; omega
                have hgb : ¬ g1 = hb := fun e => hbg e.symm
                have hsz1 : hb < (w4.alloc (.cells z8.toArray 52)).drew.heap.size := by have := hcell.2.2.1; simp; omega
                have hwc : w1.cell? ⟨hb, ho, none⟩ = some (.slice ao nx cx) := (hgrow.cell_far ⟨hb, ho, none⟩ hsz1 (fun e => hbx e.symm)).trans (cell_ad hcell.1)
                have hwf1 : w1.frozen? ⟨hb, ho, none⟩ = false := (hgrow.frozen_far ⟨hb, ho, none⟩ hsz1 (fun e => hbx e.symm)).trans ((World.frozen?_of_block (w := w4) (w' := (w4.alloc (.cells z8.toArray 52)).drew) (Below.heap_alloc _ _ _ hcell.2.2.1)).trans hcell.2.1)
                have hxl : ((Ch x).flatMap (nodeCells S V Z' Hd')).length = nx * 8 := hrow.1
                have hgc : ∀ t, t < 8 → w1.cell? ⟨g1, nx * 8 + t, none⟩ = z8[t]? := fun t ht => by
                  rw [hown.cellAt _ (by omega), List.getElem?_append_right (by omega), hxl, show nx * 8 + t - nx * 8 = t by omega]
                have hgf := fun t => hown.frozenAt t
                have k0 := hgc 0 (by omega)
                have k1 := hgc 1 (by omega)
                have k2 := hgc 2 (by omega)
                have k3 := hgc 3 (by omega)
                have k4 := hgc 4 (by omega)
                have k5 := hgc 5 (by omega)
                have k6 := hgc 6 (by omega)
                have k7 := hgc 7 (by omega)
                simp only [z8, Nat.add_zero, List.getElem?_cons_succ, List.getElem?_cons_zero] at k0 k1 k2 k3 k4 k5 k6 k7
                clear hgc
                have HR : Hid (w1.ownsRow B 52 8 (.slice (some ⟨g1, 0, none⟩) (nx + 1) cap1) (nx + 1) ((Ch x).flatMap (nodeCells S V Z' Hd') ++ z8)) := hown
                have HG : Hid ((w4.alloc (.cells z8.toArray 52)).drew.grownBy w1 (Value.slice ao nx cx).ownBlock) := hgrow
                have HAT : Hid ((Value.slice ao nx cx).ownBlock = some g1 ∨ g1 = w4.heap.size + 1) := hat
                clear hown hgrow hat
                refine any_two (i := 8) (j := 10) (by kernel_rfl) rfl rfl rfl rfl (fun K hK => ?_) (fun K hK => ?_)
                · go_simp
                  refine hK.out _ _ ?_
                  clear hK K
                  refine any_one (i := 10) (by kernel_rfl) rfl rfl (fun K hK => ?_)
                  go_simp
                  refine hK.out _ _ ⟨by kernel_rfl, ?_⟩
                  refine Only.intro (then_normal ?_)
                  gi_wp2_with fail
                  gi_meet
                  have e := HN.out
                  subst e
                  exact linked_of hA3 hcm hC.uniq hC.nodup hxn hH hnc HR.out (by rw [hVx]; exact HG.out) (by rw [hVx]; exact HAT.out)
                · go_simp
                  refine hK.out _ _ ?_
                  clear hK K
                  refine any_one (i := 8) (by kernel_rfl) rfl rfl (fun K hK => ?_)
                  go_simp
                  refine hK.out _ _ ⟨by kernel_rfl, ?_⟩
                  refine Only.intro (then_normal ?_)
                  gi_wp2_with fail
                  gi_meet
                  have e := HN.out
                  subst e
                  have hq := linked_of hA3 hcm hC.uniq hC.nodup hxn hH hnc HR.out (by rw [hVx]; exact HG.out) (by rw [hVx]; exact HAT.out)
                  rw [← put8_comm w1 hbg] at hq
                  exact hq
              case rest =>
                obtain ⟨g1, cap1, hA5, hc5, hG5, hoth⟩ := hcut
                have hb35 := hoth _ _ _ (.inr (.inl rfl)) hb33
                have hb45 := hoth _ _ _ (.inl rfl) hb43
                have hvo5 : wc.ownsRow B 56 1 vo1 d (ps.take d) := owns_keep hvo3 (fun b e => by
                  obtain ⟨cur, hc⟩ := owns_type hvo3 e
                  rw [hc]; exact hoth b cur 56 (.inr (.inr rfl)) hc)
                rw [← HN.out] at hc5
                have hc45 : wc.cell? ⟨B + 1 + 1, 0, none⟩ = some vo1 := by rw [show B + 1 + 1 = B + 2 from rfl, cell_of_row wc _ 0 _ _ _ hb45]; rfl
                have hSS := And.intro hc45 hc5
                have HA5 : Hid (Arena B wc S (k + 1) (put Ch x k) (upd V x (.slice (some ⟨g1, 0, none⟩) ((Ch x).length + 1) cap1)) Z' Hd') := hA5
                have hBw := hA5.root_le
                clear hoth hA5 hS0 hrow hcell hA3 hvo3 hb33 hb43 hc4 hab
                gi_upto_region 22 with fail
                refine draw_in (fun w' => w'.cell? ⟨B + 1 + 1, 0, none⟩ = some vo1 ∧ w'.cell? ⟨hb, ho, none⟩ = some (.slice (some ⟨g1, 0, none⟩) (nx + 1) cap1)) (fun j => decide (j < 12)) (by kernel_rfl) (by kernel_rfl) ?_
                refine E_take (i := 0) (oi := _) (v := vo1) rfl (by kernel_rfl) (by kernel_rfl) (by kernel_rfl) (by kernel_rfl) (fun _ _ _ h => h) (Or.inl ⟨by rfl, fun w' hw => ?_⟩) hSS ?_
                · obtain ⟨h0, h1⟩ := hw
                  go_simp
                refine E_take (i := 1) (oi := _) (v := .pointer (some ⟨hb, ho, none⟩)) rfl (by kernel_rfl) (by kernel_rfl) (by kernel_rfl) (by kernel_rfl) (fun _ _ _ h => h) (Or.inl ⟨by rfl, fun w' hw => ?_⟩) hSS ?_
                · go_simp
                refine E_take (i := 2) (oi := _) (v := .pointer (some ⟨hb, ho, none⟩)) rfl (by kernel_rfl) (by kernel_rfl) (by kernel_rfl) (by kernel_rfl) (fun _ _ _ h => h) (Or.inl ⟨by rfl, fun w' hw => ?_⟩) hSS ?_
                · go_simp
                refine E_take (i := 3) (oi := _) (v := .slice (some ⟨g1, 0, none⟩) (nx + 1) cap1) rfl (by kernel_rfl) (by kernel_rfl) (by kernel_rfl) (by kernel_rfl) (fun _ _ _ h => h) (Or.inl ⟨by rfl, fun w' hw => ?_⟩) hSS ?_
                · obtain ⟨h0, h1⟩ := hw
                  go_simp
                refine E_take (i := 4) (oi := _) (v := .pointer (some ⟨hb, ho, none⟩)) rfl (by kernel_rfl) (by kernel_rfl) (by kernel_rfl) (by kernel_rfl) (fun _ _ _ h => h) (Or.inl ⟨by rfl, fun w' hw => ?_⟩) hSS ?_
                · go_simp
                refine E_take (i := 5) (oi := _) (v := .pointer (some ⟨hb, ho, none⟩)) rfl (by kernel_rfl) (by kernel_rfl) (by kernel_rfl) (by kernel_rfl) (fun _ _ _ h => h) (Or.inl ⟨by rfl, fun w' hw => ?_⟩) hSS ?_
                · go_simp
                refine E_take (i := 6) (oi := _) (v := .slice (some ⟨g1, 0, none⟩) (nx + 1) cap1) rfl (by kernel_rfl) (by kernel_rfl) (by kernel_rfl) (by kernel_rfl) (fun _ _ _ h => h) (Or.inl ⟨by rfl, fun w' hw => ?_⟩) hSS ?_
                · obtain ⟨h0, h1⟩ := hw
                  go_simp
                refine E_take (i := 7) (oi := _) (v := .int .i64 ((nx + 1 : Nat) : Int)) rfl (by kernel_rfl) (by kernel_rfl) (by kernel_rfl) (by kernel_rfl) (fun _ _ _ h => h) (Or.inl ⟨by rfl, fun w' hw => ?_⟩) hSS ?_
                · go_simp
                refine E_take (i := 8) (oi := _) (v := .int .i64 nx) rfl (by kernel_rfl) (by kernel_rfl) (by kernel_rfl) (by kernel_rfl) (fun _ _ _ h => h) (Or.inl ⟨by rfl, fun w' hw => ?_⟩) hSS ?_
                · go_simp
                  exact IntWalk.i64_in _ (by omega)
                refine E_take (i := 9) (oi := _) (v := .pointer (some ⟨g1, nx * 8, none⟩)) rfl (by kernel_rfl) (by kernel_rfl) (by kernel_rfl) (by kernel_rfl) (fun _ _ _ h => h) (Or.inl ⟨by rfl, fun w' hw => ?_⟩) hSS ?_
                · have i1 : ¬ ((nx : Int) + 1 ≤ (nx : Int)) := by omega
                  have i2 : (0 : Int) ≤ (nx : Int) := by omega
                  go_simp
                refine E_one (i := 10) (by kernel_rfl) rfl rfl (fun K hK => ?_)
                go_simp
                refine hK.out _ _ (fun _ => ⟨cell_ad hc45, cell_ad hc5⟩) ?_
                clear hK K
                refine E_one (i := 11) (by kernel_rfl) rfl rfl (fun K hK => ?_)
                obtain ⟨ti, hi, hz0, hz1, hz2⟩ := info_parts info56
                refine wp_append_lies _ _ _ _ (by rfl) B 56 ti _ 1 8 Try.underlying50 hi hz0 hz1 hz2 rfl (by omega) vo1 d _ (by rfl) (owns_keep (w' := (wc.alloc (.cells #[.pointer (some ⟨g1, nx * 8, none⟩)] 56)).drew) hvo5 (fun b e => Below.heap_alloc _ _ _ (hvo5.lt b e).2)) ⟨wc.heap.size, 0, none⟩ 1 1 [.pointer (some ⟨g1, nx * 8, none⟩)] (by rfl) (by rfl)
                  (World.news_of_block (show (wc.alloc (.cells #[.pointer (some ⟨g1, nx * 8, none⟩)] 56)).drew.heap[wc.heap.size]? = some (.cells #[.pointer (some ⟨g1, nx * 8, none⟩)] 56 (0, 0)) from World.alloc_heap_new wc _)) (by simp [Value.oneCell']) (by omega) (by unfold maxLen; have := hC.osLen; omega) (by have := hC.osLen; omega) (by simp; omega) (wc.heap.size + 1) (by simp) ?_
                intro g2 cap2 w7 hown hgrow hat hlt
                have hblt : hb < wc.heap.size := World.block_lt_of_cell? wc ⟨hb, ho, none⟩ hc5
                have hB2l := lt_of_heap hb45
                have hnb2 : vo1.ownBlock ≠ some (B + 1 + 1) := fun e => by
                  obtain ⟨cur, hc⟩ := owns_type hvo5 e
                  rw [show B + 1 + 1 = B + 2 from rfl, hb45] at hc
                  simp at hc
                obtain ⟨cs5, t5, ht5, hcs5⟩ := HA5.out.hdr_cells (HdrAt.after HX.out.symm hH)
                have hnbh : vo1.ownBlock ≠ some hb := fun e => by
                  obtain ⟨cur, hc⟩ := owns_type hvo5 e
                  rw [hcs5] at hc
                  simp only [Option.some.injEq, Obj.cells.injEq, and_true] at hc
                  obtain ⟨_, rfl⟩ := hc
                  rcases ht5 with h | h <;> exact absurd h (by decide)
                have hcb7 : w7.cell? ⟨B + 1 + 1, 0, none⟩ = some vo1 := (hgrow.cell_far ⟨B + 1 + 1, 0, none⟩ (by simp; omega) (fun e => hnb2 e.symm)).trans (cell_ad hc45)
                have hfb7 : w7.frozen? ⟨B + 1 + 1, 0, none⟩ = false := (hgrow.frozen_far ⟨B + 1 + 1, 0, none⟩ (by simp; omega) (fun e => hnb2 e.symm)).trans ((World.frozen?_of_block (w := wc) (w' := (wc.alloc (.cells #[.pointer (some ⟨g1, nx * 8, none⟩)] 56)).drew) (Below.heap_alloc _ _ _ (by exact hB2l))).trans (by rw [show B + 1 + 1 = B + 2 from rfl]; simp [World.frozen?, hb45]))
                refine hK.out _ _ (fun _ => ⟨hcb7, (hgrow.cell_far ⟨hb, ho, none⟩ (by simp; omega) (fun e => hnbh e.symm)).trans (cell_ad hc5)⟩) ?_
                clear hK K
                have HR : Hid (w7.ownsRow B 56 1 (.slice (some ⟨g2, 0, none⟩) (d + 1) cap2) (d + 1) (ps.take d ++ [.pointer (some ⟨g1, nx * 8, none⟩)])) := hown
                have HG : Hid ((wc.alloc (.cells #[.pointer (some ⟨g1, nx * 8, none⟩)] 56)).drew.grownBy w7 vo1.ownBlock) := hgrow
                clear hown hgrow hat hlt hnb2 hnbh hcs5 ht5
                refine E_one (i := 12) (by kernel_rfl) rfl rfl (fun K hK => ?_)
                go_simp
                refine hK.out _ _ (fun h => absurd h (by decide)) ⟨by kernel_rfl, ?_⟩
                have e := HN.out
                subst e
                have e := HX.out
                subst e
                have hR := round_of hC hpre hst2 hO hpsl hd hdl HA5.out hZ0 hb35 hb45 hvo5 _ HG.out HR.out
                have hGG := hg3.trans (hG5.trans hR.2)
                exact ⟨⟨hR.1, HBW.out.trans hGG.below⟩, ⟨hGG.keeps.size, fun i o h => hGG.keeps.same i o (by omega)⟩, hGG.below⟩
  · intro D W hD hI hDd
    refine block_normal (then_normal ?_)
    obtain ⟨⟨Ch, V, Z, Hd, os, st, vo, ps, hst, hC, hA, hZ, hb3, hb4, hvo, hO⟩, hBW⟩ := hI
    have hc3 : W.cell? ⟨w.heap.size + 1, 0, none⟩ = some (.pointer (some ⟨w.heap.size, 0, none⟩)) := by rw [cell_of_row W _ 0 _ _ _ hb3]; rfl
    have HF : Hid ((∃ Ch V Z Hd os st, Comb Ch S len os st ∧ Arena w.heap.size (W.putObj D (.deferred none)) S len Ch V Z Hd ∧ Z 0 = w.heap.size) ∧ Below w.heap.size w (W.putObj D (.deferred none))) :=
      ⟨⟨Ch, V, Z, Hd, os, st, hC, hA.kept (fun b cs t _ hb => (SameCells.putObj hDd rfl).2 b _ hb rfl), hZ⟩, below_putObj hBW (by simp at hD; omega) (by have := lt_of_heap hDd; simp at hD; omega)⟩
    clear hBs hP hwf hC hA hZ hb3 hb4 hvo hO hBW hst
    gi_wp2
    refine ⟨by simp, .inl ⟨D, _, rfl, run_takeDeferred hDd, _, results_tmp rfl _ _ _, rfl, HF.out⟩⟩
end Go.Proofs.Qxb6609332a
