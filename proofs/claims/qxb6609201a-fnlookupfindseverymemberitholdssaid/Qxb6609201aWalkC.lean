/-
  Seat b6609201a: the walk of FnLookupFindsTheFirstMemberOfThatName (function 3).
-/
import Derived.Test.Qxb6609201aPlain
import Derived.Laws.CopyOwn
namespace Go.Proofs.Qxb6609201a
open Go.RowKit

theorem info9 : (Try.prog.info? 9).map (fun i => (i.zero, i.size, i.bytes)) = some (some (.string ⟨#[]⟩), 1, 16) := by kernel_rfl
/-- The cells of a new []string of n elements. -/
def newStrs (n : Nat) : Array Value := madeCells #[.string ⟨#[]⟩] n
theorem size_newStrs (n : Nat) : (newStrs n).size = n := size_madeCells _ _
theorem make22 (n : Nat) (hn : n ≤ 65536) (w : World) :
    (Instr.makeSlice 22 (.int .i64 n) (.int .i64 n)).run Try.prog w = .ok (.slice (some ⟨w.heap.size, 0, none⟩) n n) (w.alloc (.cells (newStrs n) 9)) := by
  obtain ⟨i, hi, hz0, hz1, hz2⟩ := info_parts info9
  have hr := run_make (P := Try.prog) w 22 9 i _ Try.underlying22 hi hz0 .i64 .i64 n n (by omega) (Int.le_refl _) (by rw [hz2]; omega) (by omega)
  rw [hr, hz1]
  simp [newStrs, Value.cells]

theorem StrsAt.below {w w' : World} {ao : Option Addr} {len : Nat} {S : Nat → ByteArray} (h : StrsAt w ao len S) (hw : ∀ b o, (w.cell? ⟨b, o, none⟩).isSome = true → w'.cell? ⟨b, o, none⟩ = w.cell? ⟨b, o, none⟩) : StrsAt w' ao len S := by
  rcases h with h | ⟨b, off, e, h⟩
  · exact Or.inl h
  · exact Or.inr ⟨b, off, e, fun i hi => (hw _ _ (by rw [h i hi]; rfl)).trans (h i hi)⟩

/-- 'zzc := make([]string, n); copy(zzc, names)': the copy, behind the make. -/
theorem copy22 (W : World) (g : Nat) (hg : W.heap.size = g) (a : Addr) (len cap : Nat) (S : Nat → ByteArray) (hc : StrsAt W (some a) len S) :
    ∃ W2, (Builtin.copy_ #[22, 22] 3 #[.slice (some ⟨g, 0, none⟩) len len, .slice (some a) len cap]).run Try.prog (W.alloc (.cells (newStrs len) 9)) = .ok (.int .i64 len) W2 ∧
      Below W.heap.size W W2 ∧ g < W2.heap.size ∧ ∀ i, i < len → W2.cell? ⟨g, i, none⟩ = some (.string (S i)) := by
  subst hg
  have hsz : (Try.prog.info? 9).map (·.size) = some 1 := by kernel_rfl
  rcases hc with rfl | ⟨b, off, e, hc⟩
  · refine ⟨_, run_copy_none (P := Try.prog) _ 22 22 3 9 _ _ 0 0 0 cap Try.underlying22 hsz rfl, (Below.refl _ _).alloc (Nat.le_refl _) _, by simp, fun i hi => absurd hi (Nat.not_lt_zero _)⟩
  · obtain rfl := Option.some.inj e
    have hlt : ∀ i, i < len → b < W.heap.size := fun i hi => by
      have := hc i hi
      by_cases hb : b < W.heap.size
      · exact hb
      · simp [World.cell?, Array.getElem?_eq_none (Nat.le_of_not_lt hb)] at this
    have hrow : (W.alloc (.cells (newStrs len) 9)).heap[W.heap.size]? = some (.cells (newStrs len) 9 (0, 0)) := by
      show (W.heap.push _)[W.heap.size]? = _
      simp
    have hl : ((List.range len).map fun i => Value.string (S i)).length = len := by simp
    have hrun := run_copy_row (P := Try.prog) (W.alloc (.cells (newStrs len) 9)) 22 22 3 9 W.heap.size 0 len len ⟨b, off, none⟩ len cap (newStrs len) 9 ((List.range len).map fun i => Value.string (S i)) Try.underlying22 hsz hrow (by simp)
      (fun j v hj => by
        have hj' : j < len := by
          have := (List.getElem?_eq_some_iff.1 hj).1
          simpa using this
        simp [hj'] at hj
        subst hj
        rw [show (⟨b, off, none⟩ : Addr).add j = ⟨b, off + j, none⟩ from by unfold Addr.add; split <;> simp_all, World.cell?_alloc_past _ _ _ (hlt j hj')]
        exact hc j hj') (by simp [size_newStrs]) (fun v hv => by
        obtain ⟨i, _, rfl⟩ := List.mem_map.1 hv
        rfl)
    rw [hl] at hrun
    refine ⟨_, hrun, below_setRow ((Below.refl _ _).alloc (Nat.le_refl _) _) (Nat.le_refl _) _, ?_, fun i hi => ?_⟩
    · simp [World.setRow]
    · have hs := setRow_heap (W.alloc (.cells (newStrs len) 9)) W.heap.size (newStrs len) (((newStrs len).toList.take 0 ++ ((List.range len).map fun i => Value.string (S i)) ++ (newStrs len).toList.drop (0 + len)).toArray) 9 (0, 0) hrow
      simp only [World.cell?, hs]
      simp only [List.take_zero, List.nil_append, List.getElem?_toArray, Option.isSome_none, Bool.false_eq_true, if_false]
      rw [List.getElem?_append_left (by simpa using hi)]
      simp [hi]

set_option maxHeartbeats 400000 in
theorem first_some (a : Addr) (len cap : Nat) (S : Nat → ByteArray) (nm : ByteArray) (w : World) (hm : len ≤ maxLen) (hs : ∀ i, i < len → (S i).size ≤ maxLen) (hnm : nm.size ≤ maxLen) (hc : StrsAt w (some a) len S) :
    Calls Try.prog 3 #[.slice (some a) len cap, .string nm] w fun e w' => e = .returned (.bool true) ∧ Below w.heap.size w w' := by
  have HC : Hid (StrsAt w (some a) len S) := hc
  have HS : Hid (∀ i, i < len → (S i).size ≤ maxLen) := hs
  have HM : Hid (len ≤ maxLen) := hm
  have HN : Hid (nm.size ≤ maxLen) := hnm
  clear hc hs
  unfold maxLen at hm hnm
  have hnil := fun (x : Addr) (l c : Nat) (w : World) => run_neq_slice_nil_any (P := Try.prog) w 22 9 (some x) l c 0 0 Try.underlying22
  go_enter Try.func3, Try.ntmps3
  go_wp2_with fail
  refine (bytes5 _ _ _ S _ _ HM.out HS.out HN.out HC.out).mono ?_
  rintro e w' ⟨⟨r, rfl, hr⟩, rfl⟩
  have HR : Hid (r = true → ∀ i, i < len → (S i).size ≤ 1048576) := hr
  clear hr
  cases r with
  | false =>
    go_wp2_with fail
    go_ret
    exact ⟨rfl, Below.refl _ _⟩
  | true =>
    have HR' : Hid (∀ i, i < len → (S i).size ≤ 1048576) := HR.out rfl
    clear HR
    by_cases h1 : 65536 < len
    · go_wp2_with fail
      go_ret
      exact ⟨rfl, Below.refl _ _⟩
    by_cases h2 : 1048576 < nm.size
    · go_wp2_with fail
      go_ret
      exact ⟨rfl, Below.refl _ _⟩
    go_wp2_with fail
    refine (count6 _ _ _ S _ HM.out HR'.out HC.out).mono ?_
    rintro e w2 ⟨⟨z, z0, z1, rfl⟩, rfl⟩
    by_cases h3 : 1048576 < z + nm.size
    · go_wp2_with fail
      go_ret
      exact ⟨rfl, Below.refl _ _⟩
    go_wp2_with fail
    refine (sorted7 _ _ _ S _ HM.out HC.out).mono ?_
    rintro e w3 ⟨⟨r, rfl, hr⟩, q, rfl⟩
    have HQ : Hid (r = true → ∀ i, i + 1 < len → leS (S i) (S (i + 1)) = true) := hr
    clear hr
    cases r with
    | false =>
      go_wp2_with fail
      go_ret
      exact ⟨rfl, below_drewN (Below.refl _ _) _⟩
    | true =>
      have HT : Hid (∀ i, i + 1 < len → leS (S i) (S (i + 1)) = true) := HQ.out rfl
      clear HQ h3 z0 z1
      have hmk := make22 len (by omega)
      obtain ⟨W, hcp, hbW, hgW, hcW⟩ := copy22 (w2.drewN q) w2.heap.size rfl a len cap S (HC.out.below (fun _ _ _ => rfl))
      have HB : Hid (Below w2.heap.size w2 W) := (below_drewN (Below.refl _ _) q).trans hbW
      clear hbW HC HS HR'
      go_wp2
      go_loop [6, 7] (fun t i => ∃ k : Nat, k ≤ len ∧ i = .int .i64 k ∧ t = .int .i64 (-1) ∧ ∀ j, j < k → eqS (S j) nm = false) (fun _ i => len - (intOf i).toNat)
      case atStart => exact ⟨0, Nat.zero_le _, rfl, rfl, fun j hj => absurd hj (Nat.not_lt_zero _)⟩
      case round =>
        obtain ⟨k, hk, rfl, rfl, hj⟩ := hrel
        have HJ : Hid (∀ j, j < k → eqS (S j) nm = false) := hj
        have HI := index8_some w2.heap.size 0 len len S nm W (by omega) hgW (fun i hi => by simpa using hcW i hi)
        have HI' : Hid (Calls Try.prog 8 #[.slice (some ⟨w2.heap.size, 0, none⟩) len len, .string nm] W fun e w' => IndexEnd S nm len e ∧ Below W.heap.size W w') := HI
        clear hj HI hmk hcp hnil
        by_cases hlt : k < len
        · have hcell := hcW k hlt
          clear hcW
          cases he : eqS (S k) nm with
          | true =>
            have he' : ((S k).toList == nm.toList) = true := he
            have HE : Hid (eqS (S k) nm = true) := he
            clear he
            go_wp2_with fail
            refine HI'.out.mono ?_
            rintro e w5 ⟨⟨r, hp, hend⟩, hb5⟩
            have hr := parts_first HT.out hp hlt HE.out HJ.out
            subst hr
            have HB5 : Hid (Below w2.heap.size w2 w5) := HB.out.trans (hb5.mono (by omega))
            rcases hend with ⟨_, _, rfl⟩ | ⟨hne, rfl⟩
            · clear hp hb5
              go_wp2
              go_ret
              exact ⟨by simp, HB5.out⟩
            · have := hne hlt
              rw [HE.out] at this
              cases this
          | false =>
            have he' : ((S k).toList == nm.toList) = false := he
            have HE : Hid (eqS (S k) nm = false) := he
            clear he
            go_wp2
            go_round
            case rel => exact ⟨k + 1, by omega, by go_num, rfl, fun j hj' => by
                by_cases e : j = k
                · subst e; exact HE.out
                · exact HJ.out j (by omega)⟩
            case measure => simp [intOf]; omega
        · clear hcW
          go_wp2_with fail
          refine HI'.out.mono ?_
          rintro e w5 ⟨⟨r, hp, hend⟩, hb5⟩
          have HB5 : Hid (Below w2.heap.size w2 w5) := HB.out.trans (hb5.mono (by omega))
          rcases hend with ⟨hr, he, rfl⟩ | ⟨hne, rfl⟩
          · have := HJ.out r (by omega)
            rw [he] at this
            cases this
          · clear hp hb5 hne
            go_wp2
            go_ret
            exact ⟨rfl, HB5.out⟩

theorem strsAt_nil (w : World) (ao : Option Addr) (S : Nat → ByteArray) : StrsAt w ao 0 S := Or.inl rfl
set_option maxHeartbeats 400000 in
theorem first_nil (nm : ByteArray) (w : World) (hnm : nm.size ≤ maxLen) :
    Calls Try.prog 3 #[.slice none 0 0, .string nm] w fun e w' => e = .returned (.bool true) ∧ Below w.heap.size w w' := by
  have HN : Hid (nm.size ≤ maxLen) := hnm
  unfold maxLen at hnm
  have hnil := fun (w : World) => run_neq_slice_nil_any (P := Try.prog) w 22 9 none 0 0 0 0 Try.underlying22
  go_enter Try.func3, Try.ntmps3
  go_wp2_with fail
  refine (bytes5 none 0 0 (fun _ => nm) _ _ (Nat.zero_le _) (fun i hi => absurd hi (Nat.not_lt_zero _)) HN.out (strsAt_nil _ _ _)).mono ?_
  rintro e w' ⟨⟨r, rfl, _⟩, rfl⟩
  cases r with
  | false =>
    go_wp2_with fail
    go_ret
    exact ⟨rfl, Below.refl _ _⟩
  | true =>
    by_cases h2 : 1048576 < nm.size
    · go_wp2_with fail
      go_ret
      exact ⟨rfl, Below.refl _ _⟩
    go_wp2_with fail
    refine (count6 none 0 0 (fun _ => nm) _ (Nat.zero_le _) (fun i hi => absurd hi (Nat.not_lt_zero _)) (strsAt_nil _ _ _)).mono ?_
    rintro e w2 ⟨⟨z, z0, z1, rfl⟩, rfl⟩
    by_cases h3 : 1048576 < z + nm.size
    · go_wp2_with fail
      go_ret
      exact ⟨rfl, Below.refl _ _⟩
    go_wp2_with fail
    refine (sorted7 none 0 0 (fun _ => nm) _ (Nat.zero_le _) (strsAt_nil _ _ _)).mono ?_
    rintro e w3 ⟨⟨r, rfl, _⟩, q, rfl⟩
    cases r with
    | false =>
      go_wp2_with fail
      go_ret
      exact ⟨rfl, below_drewN (Below.refl _ _) _⟩
    | true =>
      clear h3 z0 z1
      go_wp2
      refine wp_loop_rounds 1 ?_
      rw [rounds_succ]
      go_wp2_with fail
      refine (index8_none none 0 (fun _ => nm) nm _).mono ?_
      rintro e w5 ⟨⟨r, _, hend⟩, hb5⟩
      have HB5 : Hid (Below w2.heap.size w2 w5) := (below_drewN (Below.refl _ _) q).trans hb5
      rcases hend with ⟨hr, _, rfl⟩ | ⟨_, rfl⟩
      · omega
      · clear hb5
        go_wp2
        go_ret
        exact ⟨rfl, HB5.out⟩
end Go.Proofs.Qxb6609201a
