/-
  Seat b6609332a: the walks of the functions that only read: zzBytes_.. (functions 5 and 12), zzAddLen (13), zzPlacesBytes (6).
-/
import Derived.Test.Qxb6609332aBase
namespace Go.Proofs.Qxb6609332a
open Go.RowKit

/-- zzAddLen, plain. -/
def addLen (t l : Int) : Int := if t < 0 ∨ 1048576 < t ∨ l < 0 ∨ 1048576 < l then 1048577 else t + l
theorem addLen_bd (t l : Int) : 0 ≤ addLen t l ∧ addLen t l ≤ 2097152 := by unfold addLen; split <;> omega
theorem addLen_le {t l : Int} (h : addLen t l ≤ 1048576) : 0 ≤ t ∧ 0 ≤ l ∧ t + l ≤ 1048576 := by
  unfold addLen at h; split at h <;> omega
set_option maxHeartbeats 400000 in
theorem addLen13 (t l : Int) (w : World) : Calls Try.prog 13 #[.int .i64 t, .int .i64 l] w fun e w' => e = .returned (.int .i64 (addLen t l)) ∧ w' = w := by
  by_cases h1 : t < 0
  · have e : addLen t l = 1048577 := by unfold addLen; rw [if_pos (by omega)]
    rw [e]
    go_enter Try.func13, Try.ntmps13
    go_wp2
    go_ret
    exact ⟨rfl, rfl⟩
  by_cases h2 : 1048576 < t
  · have e : addLen t l = 1048577 := by unfold addLen; rw [if_pos (by omega)]
    rw [e]
    go_enter Try.func13, Try.ntmps13
    go_wp2
    go_ret
    exact ⟨rfl, rfl⟩
  by_cases h3 : l < 0
  · have e : addLen t l = 1048577 := by unfold addLen; rw [if_pos (by omega)]
    rw [e]
    go_enter Try.func13, Try.ntmps13
    go_wp2
    go_ret
    exact ⟨rfl, rfl⟩
  by_cases h4 : 1048576 < l
  · have e : addLen t l = 1048577 := by unfold addLen; rw [if_pos (by omega)]
    rw [e]
    go_enter Try.func13, Try.ntmps13
    go_wp2
    go_ret
    exact ⟨rfl, rfl⟩
  · have e : addLen t l = t + l := by unfold addLen; rw [if_neg (by omega)]
    rw [e]
    go_enter Try.func13, Try.ntmps13
    go_wp2
    go_ret
    exact ⟨rfl, rfl⟩

/-- How zzPlacesBytes ends: an int; where it is no more than 1<<20, there are at most 16384 places. -/
def CountEnd (len : Nat) (e : Ending) : Prop := ∃ n : Int, 0 ≤ n ∧ n ≤ 2097152 ∧ (n ≤ 1048576 → len ≤ 16384) ∧ e = .returned (.int .i64 n)

set_option maxHeartbeats 400000 in
theorem count_some (b off len cap : Nat) (S : Nat → Pl) (w : World) (hm : len ≤ maxLen) (hc : ∀ i, i < len → At w b (off + i * 11) (S i)) :
    Calls Try.prog 6 #[.slice (some ⟨b, off, none⟩) len cap] w fun e w' => CountEnd len e ∧ w' = w := by
  unfold maxLen at hm
  by_cases hl : 16384 < len
  · go_enter Try.func6, Try.ntmps6
    go_wp2
    go_ret
    exact ⟨⟨_, by omega, by omega, by omega, rfl⟩, rfl⟩
  · go_enter Try.func6, Try.ntmps6
    go_wp2
    go_loop [3, 4] (fun z i => ∃ (k : Nat) (n : Int), k ≤ len ∧ 0 ≤ n ∧ n ≤ 2097152 ∧ i = .int .i64 k ∧ z = .int .i64 n) (fun _ i => len - (intOf i).toNat)
    case atStart => exact ⟨0, 64 * len, Nat.zero_le _, by omega, by omega, rfl, by go_num⟩
    case round =>
      obtain ⟨k, n, hk, hn0, hn1, rfl, rfl⟩ := hrel
      by_cases hlt : k < len
      · obtain ⟨a0, a1, a2, a3, a4, a5, a6, a7, a8, a9, a10⟩ := hc k hlt
        clear hc a0 a1 a2 a3 a4
        go_wp2_with (go_at_call 13; refine (addLen13 _ _ _).mono ?_; rintro e w' ⟨rfl, rfl⟩)
        go_round
        case rel => exact ⟨k + 1, _, by omega, (addLen_bd _ _).1, (addLen_bd _ _).2, by go_num, rfl⟩
        case measure => simp [intOf]; omega
      · go_wp2
        go_ret
        exact ⟨⟨n, hn0, hn1, by omega, rfl⟩, rfl⟩
set_option maxHeartbeats 400000 in
theorem count_none (ao : Option Addr) (cap : Nat) (w : World) :
    Calls Try.prog 6 #[.slice ao 0 cap] w fun e w' => CountEnd 0 e ∧ w' = w := by
  go_enter Try.func6, Try.ntmps6
  go_wp2
  refine wp_loop_rounds 1 ?_
  rw [rounds_succ]
  go_wp2
  go_ret
  exact ⟨⟨0, by omega, by omega, by omega, rfl⟩, rfl⟩
theorem count6 (ao : Option Addr) (len cap : Nat) (S : Nat → Pl) (w : World) (hm : len ≤ maxLen) (hc : PlsAt w ao len S) :
    Calls Try.prog 6 #[.slice ao len cap] w fun e w' => CountEnd len e ∧ w' = w := by
  rcases hc with rfl | ⟨b, off, rfl, hc⟩
  · exact count_none ao cap w
  · exact count_some b off len cap S w hm hc

/-- How zzBytes_.. ends: a bool. -/
def BoolEnd (e : Ending) : Prop := ∃ r : Bool, e = .returned (.bool r)

set_option maxRecDepth 20000 in
set_option maxHeartbeats 1000000 in
theorem bytes5_some (b off len cap : Nat) (S : Nat → Pl) (w : World) (hm : len ≤ maxLen) (hc : ∀ i, i < len → At w b (off + i * 11) (S i)) :
    Calls Try.prog 5 #[.slice (some ⟨b, off, none⟩) len cap] w fun e w' => BoolEnd e ∧ w' = w := by
  unfold maxLen at hm
  by_cases hl : 1048576 < len
  · go_enter Try.func5, Try.ntmps5
    go_wp2
    go_ret
    exact ⟨⟨_, rfl⟩, rfl⟩
  · go_enter Try.func5, Try.ntmps5
    go_wp2
    go_loop [3, 4] (fun z i => ∃ (k : Nat) (n : Int), k ≤ len ∧ 0 ≤ n ∧ n ≤ 1048576 ∧ i = .int .i64 k ∧ z = .int .i64 n) (fun _ i => len - (intOf i).toNat)
    case atStart => exact ⟨0, len, Nat.zero_le _, by omega, by omega, rfl, by go_num⟩
    case round =>
      obtain ⟨k, n, hk, hn0, hn1, rfl, rfl⟩ := hrel
      by_cases hlt : k < len
      · obtain ⟨a0, a1, a2, a3, a4, a5, a6, a7, a8, a9, a10⟩ := hc k hlt
        clear hc a0 a1 a2 a3 a4
        go_wp2
        all_goals first
          | (go_ret; exact ⟨⟨_, rfl⟩, rfl⟩)
          | (go_round
             case rel => exact ⟨k + 1, _, by omega, by omega, by assumption, by go_num, rfl⟩
             case measure => simp [intOf]; omega)
      · go_wp2
        go_ret
        exact ⟨⟨_, rfl⟩, rfl⟩

set_option maxHeartbeats 400000 in
theorem bytes5_none (ao : Option Addr) (cap : Nat) (w : World) :
    Calls Try.prog 5 #[.slice ao 0 cap] w fun e w' => BoolEnd e ∧ w' = w := by
  go_enter Try.func5, Try.ntmps5
  go_wp2
  refine wp_loop_rounds 1 ?_
  rw [rounds_succ]
  go_wp2
  go_ret
  exact ⟨⟨_, rfl⟩, rfl⟩
theorem bytes5 (ao : Option Addr) (len cap : Nat) (S : Nat → Pl) (w : World) (hm : len ≤ maxLen) (hc : PlsAt w ao len S) :
    Calls Try.prog 5 #[.slice ao len cap] w fun e w' => BoolEnd e ∧ w' = w := by
  rcases hc with rfl | ⟨b, off, rfl, hc⟩
  · exact bytes5_none ao cap w
  · exact bytes5_some b off len cap S w hm hc
end Go.Proofs.Qxb6609332a
