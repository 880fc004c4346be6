/-
  Seat b6609201a: the walks of the functions that only read: zzBytes_.. (functions 5 and 9), zzStringsBytes (6), zzSorted (7).
-/
import Derived.Test.Qxb6609201aRows
import Derived.WalkKit
import Derived.WalkSpells
import Derived.WalkLawsBesides
import Derived.BigQuiet
namespace Go.Proofs.Qxb6609201a
open Go.RowKit

/-- The slice at 'ao', of 'len' strings, holds S 0, S 1, .. (an empty one may lie anywhere). -/
def StrsAt (w : World) (ao : Option Addr) (len : Nat) (S : Nat → ByteArray) : Prop :=
  len = 0 ∨ ∃ b off, ao = some ⟨b, off, none⟩ ∧ ∀ i, i < len → w.cell? ⟨b, off + i, none⟩ = some (.string (S i))

/-- How zzBytes_.. ends: a bool; if it is true, every string is short. -/
def BytesEnd (S : Nat → ByteArray) (len : Nat) (e : Ending) : Prop := ∃ r : Bool, e = .returned (.bool r) ∧ (r = true → ∀ i, i < len → (S i).size ≤ 1048576)
theorem bytesEnd_false (S : Nat → ByteArray) (len : Nat) : BytesEnd S len (.returned (.bool false)) := ⟨false, rfl, fun h => by cases h⟩
theorem bytesEnd_true {S : Nat → ByteArray} {len : Nat} (h : ∀ i, i < len → (S i).size ≤ 1048576) : BytesEnd S len (.returned (.bool true)) := ⟨true, rfl, fun _ => h⟩

set_option maxRecDepth 20000 in
set_option maxHeartbeats 400000 in
theorem bytes9_some (b off len cap : Nat) (S : Nat → ByteArray) (w : World) (hm : len ≤ maxLen) (hs : ∀ i, i < len → (S i).size ≤ maxLen)
    (hc : ∀ i, i < len → w.cell? ⟨b, off + i, none⟩ = some (.string (S i))) :
    Calls Try.prog 9 #[.slice (some ⟨b, off, none⟩) len cap] w fun e w' => BytesEnd S len e ∧ w' = w := by
  unfold maxLen at hm hs
  by_cases hl : 1048576 < len
  · go_enter Try.func9, Try.ntmps9
    go_wp2
    go_ret
    exact ⟨bytesEnd_false _ _, rfl⟩
  · go_enter Try.func9, Try.ntmps9
    go_wp2
    go_loop [3, 4] (fun z i => ∃ (k : Nat) (n : Int), k ≤ len ∧ 0 ≤ n ∧ n ≤ 1048576 ∧ i = .int .i64 k ∧ z = .int .i64 n ∧ ∀ j, j < k → (S j).size ≤ 1048576) (fun _ i => len - (intOf i).toNat)
    case atStart => exact ⟨0, len, Nat.zero_le _, by omega, by omega, rfl, by go_num, fun j hj => absurd hj (Nat.not_lt_zero _)⟩
    case round =>
      obtain ⟨k, n, hk, hn0, hn1, rfl, rfl, hj⟩ := hrel
      by_cases hlt : k < len
      · have hcell := hc k hlt
        have hsz := hs k hlt
        have HJ : Hid (∀ j, j < k → (S j).size ≤ 1048576) := hj
        clear hj
        by_cases c1 : 1048576 < (S k).size
        · go_wp2
          go_ret
          exact ⟨bytesEnd_false _ _, rfl⟩
        · by_cases c2 : 1048576 < n + (S k).size
          · go_wp2
            go_ret
            exact ⟨bytesEnd_false _ _, rfl⟩
          · go_wp2
            go_round
            case rel => exact ⟨k + 1, n + (S k).size, by omega, by omega, by omega, by go_num, rfl, fun j hj' => by
                by_cases e : j = k
                · subst e; omega
                · exact HJ.out j (by omega)⟩
            case measure => simp [intOf]; omega
      · have HJ : Hid (∀ j, j < k → (S j).size ≤ 1048576) := hj
        clear hj
        go_wp2
        go_ret
        exact ⟨bytesEnd_true (fun i hi => HJ.out i (by omega)), rfl⟩

set_option maxHeartbeats 400000 in
theorem bytes9_none (ao : Option Addr) (cap : Nat) (S : Nat → ByteArray) (w : World) :
    Calls Try.prog 9 #[.slice ao 0 cap] w fun e w' => BytesEnd S 0 e ∧ w' = w := by
  go_enter Try.func9, Try.ntmps9
  go_wp2
  refine wp_loop_rounds 1 ?_
  rw [rounds_succ]
  go_wp2
  go_ret
  exact ⟨bytesEnd_true (fun i hi => absurd hi (Nat.not_lt_zero _)), rfl⟩

theorem bytes9 (ao : Option Addr) (len cap : Nat) (S : Nat → ByteArray) (w : World) (hm : len ≤ maxLen) (hs : ∀ i, i < len → (S i).size ≤ maxLen) (hc : StrsAt w ao len S) :
    Calls Try.prog 9 #[.slice ao len cap] w fun e w' => BytesEnd S len e ∧ w' = w := by
  rcases hc with rfl | ⟨b, off, rfl, hc⟩
  · exact bytes9_none ao cap S w
  · exact bytes9_some b off len cap S w hm hs hc

set_option maxRecDepth 20000 in
set_option maxHeartbeats 400000 in
theorem bytes5_some (b off len cap : Nat) (S : Nat → ByteArray) (nm : ByteArray) (w : World) (hm : len ≤ maxLen) (hs : ∀ i, i < len → (S i).size ≤ maxLen) (hnm : nm.size ≤ maxLen)
    (hc : ∀ i, i < len → w.cell? ⟨b, off + i, none⟩ = some (.string (S i))) :
    Calls Try.prog 5 #[.slice (some ⟨b, off, none⟩) len cap, .string nm] w fun e w' => BytesEnd S len e ∧ w' = w := by
  unfold maxLen at hm hs hnm
  by_cases hl : 1048576 < len
  · go_enter Try.func5, Try.ntmps5
    go_wp2
    go_ret
    exact ⟨bytesEnd_false _ _, rfl⟩
  · go_enter Try.func5, Try.ntmps5
    go_wp2
    go_loop [5, 6] (fun z i => ∃ (k : Nat) (n : Int), k ≤ len ∧ 0 ≤ n ∧ n ≤ 1048576 ∧ i = .int .i64 k ∧ z = .int .i64 n ∧ ∀ j, j < k → (S j).size ≤ 1048576) (fun _ i => len - (intOf i).toNat)
    case atStart => exact ⟨0, len, Nat.zero_le _, by omega, by omega, rfl, by go_num, fun j hj => absurd hj (Nat.not_lt_zero _)⟩
    case round =>
      obtain ⟨k, n, hk, hn0, hn1, rfl, rfl, hj⟩ := hrel
      have HJ : Hid (∀ j, j < k → (S j).size ≤ 1048576) := hj
      clear hj
      by_cases hlt : k < len
      · have hcell := hc k hlt
        have hsz := hs k hlt
        by_cases c1 : 1048576 < (S k).size
        · go_wp2
          go_ret
          exact ⟨bytesEnd_false _ _, rfl⟩
        · by_cases c2 : 1048576 < n + (S k).size
          · go_wp2
            go_ret
            exact ⟨bytesEnd_false _ _, rfl⟩
          · go_wp2
            go_round
            case rel => exact ⟨k + 1, n + (S k).size, by omega, by omega, by omega, by go_num, rfl, fun j hj' => by
                by_cases e : j = k
                · subst e; omega
                · exact HJ.out j (by omega)⟩
            case measure => simp [intOf]; omega
      · by_cases c1 : 1048576 < nm.size
        · go_wp2
          go_ret
          exact ⟨bytesEnd_false _ _, rfl⟩
        · by_cases c2 : 1048576 < n + nm.size
          · go_wp2
            go_ret
            exact ⟨bytesEnd_false _ _, rfl⟩
          · go_wp2
            go_ret
            exact ⟨bytesEnd_true (fun i hi => HJ.out i (by omega)), rfl⟩

set_option maxHeartbeats 400000 in
theorem bytes5_none (ao : Option Addr) (cap : Nat) (S : Nat → ByteArray) (nm : ByteArray) (w : World) (hnm : nm.size ≤ maxLen) :
    Calls Try.prog 5 #[.slice ao 0 cap, .string nm] w fun e w' => BytesEnd S 0 e ∧ w' = w := by
  unfold maxLen at hnm
  have tt := bytesEnd_true (S := S) (len := 0) (fun i hi => absurd hi (Nat.not_lt_zero _))
  have ff := bytesEnd_false S 0
  by_cases c1 : 1048576 < nm.size
  all_goals
    go_enter Try.func5, Try.ntmps5
    go_wp2
    refine wp_loop_rounds 1 ?_
    rw [rounds_succ]
    go_wp2
    go_ret
    first | exact ⟨tt, rfl⟩ | exact ⟨ff, rfl⟩

theorem bytes5 (ao : Option Addr) (len cap : Nat) (S : Nat → ByteArray) (nm : ByteArray) (w : World) (hm : len ≤ maxLen) (hs : ∀ i, i < len → (S i).size ≤ maxLen) (hnm : nm.size ≤ maxLen) (hc : StrsAt w ao len S) :
    Calls Try.prog 5 #[.slice ao len cap, .string nm] w fun e w' => BytesEnd S len e ∧ w' = w := by
  rcases hc with rfl | ⟨b, off, rfl, hc⟩
  · exact bytes5_none ao cap S nm w hnm
  · exact bytes5_some b off len cap S nm w hm hs hnm hc

/-- How zzStringsBytes ends: an int from 0 to 1048577. -/
def CountEnd (e : Ending) : Prop := ∃ n : Int, 0 ≤ n ∧ n ≤ 1048577 ∧ e = .returned (.int .i64 n)
theorem countEnd_of (n : Int) (h0 : 0 ≤ n) (h1 : n ≤ 1048577) : CountEnd (.returned (.int .i64 n)) := ⟨n, h0, h1, rfl⟩

set_option maxRecDepth 20000 in
set_option maxHeartbeats 400000 in
theorem count_some (b off len cap : Nat) (S : Nat → ByteArray) (w : World) (hm : len ≤ maxLen) (hs : ∀ i, i < len → (S i).size ≤ 1048576)
    (hc : ∀ i, i < len → w.cell? ⟨b, off + i, none⟩ = some (.string (S i))) :
    Calls Try.prog 6 #[.slice (some ⟨b, off, none⟩) len cap] w fun e w' => CountEnd e ∧ w' = w := by
  unfold maxLen at hm
  by_cases hl : 65536 < len
  · go_enter Try.func6, Try.ntmps6
    go_wp2
    go_ret
    exact ⟨countEnd_of _ (by omega) (by omega), rfl⟩
  · go_enter Try.func6, Try.ntmps6
    go_wp2
    go_loop [3, 4] (fun z i => ∃ (k : Nat) (n : Int), k ≤ len ∧ 0 ≤ n ∧ n ≤ 1048576 ∧ i = .int .i64 k ∧ z = .int .i64 n) (fun _ i => len - (intOf i).toNat)
    case atStart => exact ⟨0, 16 * len, Nat.zero_le _, by omega, by omega, rfl, by go_num⟩
    case round =>
      obtain ⟨k, n, hk, hn0, hn1, rfl, rfl⟩ := hrel
      by_cases hlt : k < len
      · have hcell := hc k hlt
        have hsz := hs k hlt
        by_cases c2 : 1048576 < n + (S k).size
        · go_wp2
          go_ret
          exact ⟨countEnd_of _ (by omega) (by omega), rfl⟩
        · go_wp2
          go_round
          case rel => exact ⟨k + 1, n + (S k).size, by omega, by omega, by omega, by go_num, rfl⟩
          case measure => simp [intOf]; omega
      · go_wp2
        go_ret
        exact ⟨countEnd_of _ hn0 (by omega), rfl⟩

set_option maxHeartbeats 400000 in
theorem count_none (ao : Option Addr) (cap : Nat) (w : World) :
    Calls Try.prog 6 #[.slice ao 0 cap] w fun e w' => CountEnd e ∧ w' = w := by
  go_enter Try.func6, Try.ntmps6
  go_wp2
  refine wp_loop_rounds 1 ?_
  rw [rounds_succ]
  go_wp2
  go_ret
  exact ⟨countEnd_of _ (by omega) (by omega), rfl⟩

theorem count6 (ao : Option Addr) (len cap : Nat) (S : Nat → ByteArray) (w : World) (hm : len ≤ maxLen) (hs : ∀ i, i < len → (S i).size ≤ 1048576) (hc : StrsAt w ao len S) :
    Calls Try.prog 6 #[.slice ao len cap] w fun e w' => CountEnd e ∧ w' = w := by
  rcases hc with rfl | ⟨b, off, rfl, hc⟩
  · exact count_none ao cap w
  · exact count_some b off len cap S w hm hs hc

/-- 'a <= b' on strings, as the model has it. -/
def leS (a b : ByteArray) : Bool := Op.bytesLess a.toList b.toList || a.toList == b.toList
/-- How zzSorted ends: a bool; if it is true, the strings rise. -/
def SortEnd (S : Nat → ByteArray) (len : Nat) (e : Ending) : Prop := ∃ r : Bool, e = .returned (.bool r) ∧ (r = true → ∀ i, i + 1 < len → leS (S i) (S (i + 1)) = true)
theorem sortEnd_false (S : Nat → ByteArray) (len : Nat) : SortEnd S len (.returned (.bool false)) := ⟨false, rfl, fun h => by cases h⟩
theorem sortEnd_true {S : Nat → ByteArray} {len : Nat} (h : ∀ i, i + 1 < len → leS (S i) (S (i + 1)) = true) : SortEnd S len (.returned (.bool true)) := ⟨true, rfl, fun _ => h⟩

set_option maxRecDepth 20000 in
set_option maxHeartbeats 400000 in
theorem sorted_some (b off len cap : Nat) (S : Nat → ByteArray) (w : World) (hm : len ≤ maxLen)
    (hc : ∀ i, i < len → w.cell? ⟨b, off + i, none⟩ = some (.string (S i))) :
    Calls Try.prog 7 #[.slice (some ⟨b, off, none⟩) len cap] w fun e w' => SortEnd S len e ∧ ∃ q, w' = w.drewN q := by
  unfold maxLen at hm
  go_enter Try.func7, Try.ntmps7
  go_wp2
  go_loopw [3] (fun i wr => ∃ (k : Nat), k ≤ len ∧ i = .int .i64 (k + 1) ∧ (∀ j, j + 1 < k + 1 → leS (S j) (S (j + 1)) = true) ∧ ∃ q, wr = w.drewN q) (fun i _ => len - (intOf i).toNat)
  case atStart => exact ⟨0, Nat.zero_le _, rfl, fun j hj => absurd hj (by omega), 0, rfl⟩
  case round =>
    obtain ⟨k, hk, rfl, hj, q, rfl⟩ := hrel
    have HJ : Hid (∀ j, j + 1 < k + 1 → leS (S j) (S (j + 1)) = true) := hj
    clear hj
    by_cases hlt : k + 1 < len
    · have c0 := hc k (by omega)
      have c1 := hc (k + 1) hlt
      by_cases hle : leS (S k) (S (k + 1)) = true
      · have hle' : (Op.bytesLess (S k).toList (S (k + 1)).toList || (S k).toList == (S (k + 1)).toList) = true := hle
        have HL : Hid (leS (S k) (S (k + 1)) = true) := hle
        clear hle hc
        go_wp2
        go_quiet (fail)
        go_wp2
        go_roundw
        case rel => exact ⟨k + 1, by omega, by go_num, fun j hj' => by
            by_cases e : j = k
            · subst e; exact HL.out
            · exact HJ.out j (by omega), _, rfl⟩
        case measure => simp [intOf]; omega
      · have hle' : (Op.bytesLess (S k).toList (S (k + 1)).toList || (S k).toList == (S (k + 1)).toList) = false := by simpa [leS] using hle
        clear hle hc
        go_wp2
        go_quiet (fail)
        go_wp2
        go_ret
        exact ⟨sortEnd_false _ _, q + nq, by simp [World.drewN_drewN]⟩
    · go_wp2
      go_ret
      exact ⟨sortEnd_true (fun i hi => HJ.out i (by omega)), q, rfl⟩

set_option maxHeartbeats 400000 in
theorem sorted_none (ao : Option Addr) (cap : Nat) (S : Nat → ByteArray) (w : World) :
    Calls Try.prog 7 #[.slice ao 0 cap] w fun e w' => SortEnd S 0 e ∧ ∃ q, w' = w.drewN q := by
  go_enter Try.func7, Try.ntmps7
  go_wp2
  refine wp_loop_rounds 1 ?_
  rw [rounds_succ]
  go_wp2
  go_ret
  exact ⟨sortEnd_true (fun i hi => absurd hi (by omega)), 0, rfl⟩

theorem sorted7 (ao : Option Addr) (len cap : Nat) (S : Nat → ByteArray) (w : World) (hm : len ≤ maxLen) (hc : StrsAt w ao len S) :
    Calls Try.prog 7 #[.slice ao len cap] w fun e w' => SortEnd S len e ∧ ∃ q, w' = w.drewN q := by
  rcases hc with rfl | ⟨b, off, rfl, hc⟩
  · exact sorted_none ao cap S w
  · exact sorted_some b off len cap S w hm hc
end Go.Proofs.Qxb6609201a
