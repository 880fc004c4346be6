/-
  Seat b6609201a: the walk of FnLookupFindsEveryMemberItHolds (function 4).
-/
import Derived.Test.Qxb6609201aWalkC
namespace Go.Proofs.Qxb6609201a
open Go.RowKit

set_option maxHeartbeats 400000 in
theorem every_some (a : Addr) (len cap : Nat) (S : Nat → ByteArray) (w : World) (hm : len ≤ maxLen) (hs : ∀ i, i < len → (S i).size ≤ maxLen) (hc : StrsAt w (some a) len S) :
    Calls Try.prog 4 #[.slice (some a) len cap] w fun e w' => e = .returned (.bool true) ∧ Below w.heap.size w w' := by
  have HC : Hid (StrsAt w (some a) len S) := hc
  have HS : Hid (∀ i, i < len → (S i).size ≤ maxLen) := hs
  have HM : Hid (len ≤ maxLen) := hm
  clear hc hs
  unfold maxLen at hm
  have hnil := fun (x : Addr) (l c : Nat) (w : World) => run_neq_slice_nil_any (P := Try.prog) w 22 9 (some x) l c 0 0 Try.underlying22
  go_enter Try.func4, Try.ntmps4
  go_wp2_with fail
  refine (bytes9 _ _ _ S _ HM.out HS.out HC.out).mono ?_
  rintro e w' ⟨⟨r, rfl, hr⟩, rfl⟩
  have HR : Hid (r = true → ∀ i, i < len → (S i).size ≤ 1048576) := hr
  clear hr
  cases r with
  | false =>
    go_wp2_with fail
    go_ret
    exact ⟨rfl, Below.refl _ _⟩
  | true =>
    have HR' : Hid (∀ i, i < len → (S i).size ≤ 1048576) := HR.out rfl
    clear HR
    by_cases h1 : 4096 < len
    · go_wp2_with fail
      go_ret
      exact ⟨rfl, Below.refl _ _⟩
    go_wp2_with fail
    refine (count6 _ _ _ S _ HM.out HR'.out HC.out).mono ?_
    rintro e w2 ⟨⟨z, z0, z1, rfl⟩, rfl⟩
    by_cases h3 : 1048576 < z
    · go_wp2_with fail
      go_ret
      exact ⟨rfl, Below.refl _ _⟩
    go_wp2_with fail
    refine (sorted7 _ _ _ S _ HM.out HC.out).mono ?_
    rintro e w3 ⟨⟨r, rfl, hr⟩, q, rfl⟩
    have HQ : Hid (r = true → ∀ i, i + 1 < len → leS (S i) (S (i + 1)) = true) := hr
    clear hr
    cases r with
    | false =>
      go_wp2_with fail
      go_ret
      exact ⟨rfl, below_drewN (Below.refl _ _) _⟩
    | true =>
      have HT : Hid (∀ i, i + 1 < len → leS (S i) (S (i + 1)) = true) := HQ.out rfl
      clear HQ h3 z0 z1
      have hmk := make22 len (by omega)
      obtain ⟨W, hcp, hbW, hgW, hcW⟩ := copy22 (w2.drewN q) w2.heap.size rfl a len cap S (HC.out.below (fun _ _ _ => rfl))
      have HB : Hid (Below w2.heap.size w2 W) := (below_drewN (Below.refl _ _) q).trans hbW
      clear hbW HC HS HR'
      go_wp2
      go_loopw [4] (fun i wr => ∃ k : Nat, k ≤ len ∧ i = .int .i64 k ∧ Below W.heap.size W wr) (fun i _ => len - (intOf i).toNat)
      case atStart => exact ⟨0, Nat.zero_le _, rfl, Below.refl _ _⟩
      case round =>
        obtain ⟨k, hk, rfl, hbr⟩ := hrel
        have hcr : ∀ i, i < len → wr.cell? ⟨w2.heap.size, i, none⟩ = some (.string (S i)) := fun i hi => (hbr.cell (by exact hgW)).trans (hcW i hi)
        have hgr : w2.heap.size < wr.heap.size := Nat.lt_of_lt_of_le hgW hbr.size
        clear hmk hcp hnil
        have HBR : Hid (Below W.heap.size W wr) := hbr
        clear hbr hcW
        by_cases hlt : k < len
        · have hcell := hcr k hlt
          have HI' : Hid (Calls Try.prog 8 #[.slice (some ⟨w2.heap.size, 0, none⟩) len len, .string (S k)] wr fun e w' => IndexEnd S (S k) len e ∧ Below wr.heap.size wr w') :=
            index8_some w2.heap.size 0 len len S (S k) wr (by omega) hgr (fun i hi => by simpa using hcr i hi)
          have HCR : Hid (∀ i, i < len → wr.cell? ⟨w2.heap.size, i, none⟩ = some (.string (S i))) := hcr
          clear hcr
          go_wp2_with fail
          refine HI'.out.mono ?_
          rintro e w5 ⟨⟨r, hp, hend⟩, hb5⟩
          obtain ⟨q1, q2, q3⟩ := parts_hit HT.out hp hlt (eqS_iff.2 rfl)
          rcases hend with ⟨_, _, rfl⟩ | ⟨hne, rfl⟩
          · have g0 : w5.cell? ⟨w2.heap.size, r, none⟩ = some (.string (S r)) := (hb5.cell (by exact hgr)).trans (HCR.out r q2)
            have g1 : w5.cell? ⟨w2.heap.size, k, none⟩ = some (.string (S k)) := (hb5.cell (by exact hgr)).trans (HCR.out k hlt)
            have q3' : ((S r).toList == (S k).toList) = true := q3
            by_cases hr0 : 0 < r
            · have g2 : w5.cell? ⟨w2.heap.size, r - 1, none⟩ = some (.string (S (r - 1))) := (hb5.cell (by exact hgr)).trans (HCR.out (r - 1) (by omega))
              have q4 : ((S (r - 1)).toList == (S k).toList) = false := parts_before hp hr0
              have hd : decide ((0 : Int) < (r : Int)) = true := by simp; omega
              have HB5 : Hid (Below wr.heap.size wr w5) := hb5
              clear hp hb5 q3
              go_wp2
              go_quiet (fail)
              go_wp2
              go_quiet (fail)
              go_wp2
              go_roundw
              case rel => exact ⟨k + 1, by omega, by go_num, HBR.out.trans (below_drewN (HB5.out.mono HBR.out.size) _)⟩
              case measure => simp [intOf]; omega
            · have hd : decide ((0 : Int) < (r : Int)) = false := by simp; omega
              have HB5 : Hid (Below wr.heap.size wr w5) := hb5
              clear hp hb5 q3
              go_wp2
              go_quiet (fail)
              go_wp2
              go_quiet (fail)
              go_wp2
              go_roundw
              case rel => exact ⟨k + 1, by omega, by go_num, HBR.out.trans (below_drewN (HB5.out.mono HBR.out.size) _)⟩
              case measure => simp [intOf]; omega
          · have := hne q2
            rw [q3] at this
            cases this
        · go_wp2
          go_ret
          exact ⟨rfl, HB.out.trans (HBR.out.mono (by omega))⟩

set_option maxHeartbeats 400000 in
theorem every_nil (w : World) :
    Calls Try.prog 4 #[.slice none 0 0] w fun e w' => e = .returned (.bool true) ∧ Below w.heap.size w w' := by
  have hnil := fun (w : World) => run_neq_slice_nil_any (P := Try.prog) w 22 9 none 0 0 0 0 Try.underlying22
  go_enter Try.func4, Try.ntmps4
  go_wp2_with fail
  refine (bytes9 none 0 0 (fun _ => ByteArray.empty) _ (Nat.zero_le _) (fun i hi => absurd hi (Nat.not_lt_zero _)) (strsAt_nil _ _ _)).mono ?_
  rintro e w' ⟨⟨r, rfl, _⟩, rfl⟩
  cases r with
  | false =>
    go_wp2_with fail
    go_ret
    exact ⟨rfl, Below.refl _ _⟩
  | true =>
    go_wp2_with fail
    refine (count6 none 0 0 (fun _ => ByteArray.empty) _ (Nat.zero_le _) (fun i hi => absurd hi (Nat.not_lt_zero _)) (strsAt_nil _ _ _)).mono ?_
    rintro e w2 ⟨⟨z, z0, z1, rfl⟩, rfl⟩
    by_cases h3 : 1048576 < z
    · go_wp2_with fail
      go_ret
      exact ⟨rfl, Below.refl _ _⟩
    go_wp2_with fail
    refine (sorted7 none 0 0 (fun _ => ByteArray.empty) _ (Nat.zero_le _) (strsAt_nil _ _ _)).mono ?_
    rintro e w3 ⟨⟨r, rfl, _⟩, q, rfl⟩
    cases r with
    | false =>
      go_wp2_with fail
      go_ret
      exact ⟨rfl, below_drewN (Below.refl _ _) _⟩
    | true =>
      clear h3 z0 z1
      go_wp2
      refine wp_loop_rounds 1 ?_
      rw [rounds_succ]
      go_wp2
      go_ret
      exact ⟨rfl, below_drewN (Below.refl _ _) _⟩
end Go.Proofs.Qxb6609201a
