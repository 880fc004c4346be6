/-
  Seat b6609332a: the walk of zzBytes_FnAttributesFromConcatenates (function 12).
-/
import Derived.Test.Qxb6609332aWalkA
namespace Go.Proofs.Qxb6609332a
open Go.RowKit

set_option maxRecDepth 20000 in
set_option maxHeartbeats 4000000 in
theorem bytes12 (ao ao' : Option Addr) (len cap len' cap' : Nat) (S S' : Nat → Pl) (w : World) (hm : len ≤ maxLen) (hm' : len' ≤ maxLen) (hc : PlsAt w ao len S) (hc' : PlsAt w ao' len' S') :
    Calls Try.prog 12 #[.slice ao len cap, .slice ao' len' cap'] w fun e w' => BoolEnd e ∧ w' = w := by
  unfold maxLen at hm hm'
  have HC : Hid (PlsAt w ao len S) := hc
  have HC' : Hid (PlsAt w ao' len' S') := hc'
  clear hc hc'
  by_cases hl : 1048576 < len
  · go_enter Try.func12, Try.ntmps12
    go_wp2
    go_ret
    exact ⟨⟨_, rfl⟩, rfl⟩
  go_enter Try.func12, Try.ntmps12
  go_wp2
  go_loop [5, 6] (fun z i => ∃ (k : Nat) (n : Int), k ≤ len ∧ 0 ≤ n ∧ n ≤ 1048576 ∧ i = .int .i64 k ∧ z = .int .i64 n) (fun _ i => len - (intOf i).toNat)
  case atStart => exact ⟨0, len, Nat.zero_le _, by omega, by omega, rfl, by go_num⟩
  case round =>
    obtain ⟨k, n, hk, hn0, hn1, rfl, rfl⟩ := hrel
    by_cases hlt : k < len
    · rcases HC.out with h0 | ⟨b, off, rfl, hc⟩
      · omega
      obtain ⟨a0, a1, a2, a3, a4, a5, a6, a7, a8, a9, a10⟩ := hc k hlt
      clear hc a0 a1 a2 a3 a4 HC HC'
      go_wp2
      all_goals first
        | (go_ret; exact ⟨⟨_, rfl⟩, rfl⟩)
        | (go_round
           case rel => exact ⟨k + 1, _, by omega, by omega, by assumption, by go_num, rfl⟩
           case measure => simp [intOf]; omega)
    · by_cases hl' : 1048576 < len'
      · go_wp2
        go_ret
        exact ⟨⟨_, rfl⟩, rfl⟩
      by_cases hl2 : 1048576 < n + len'
      · go_wp2
        go_ret
        exact ⟨⟨_, rfl⟩, rfl⟩
      go_wp2
      go_loop [5, 7] (fun z i => ∃ (k : Nat) (n : Int), k ≤ len' ∧ 0 ≤ n ∧ n ≤ 1048576 ∧ i = .int .i64 k ∧ z = .int .i64 n) (fun _ i => len' - (intOf i).toNat)
      case atStart => exact ⟨0, n + len', Nat.zero_le _, by omega, by omega, rfl, by go_num⟩
      case round =>
        clear hk hn0 hn1 hl2 hlt
        obtain ⟨k', n', hk, hn0, hn1, rfl, rfl⟩ := hrel
        by_cases hlt : k' < len'
        · rcases HC'.out with h0 | ⟨b, off, rfl, hc⟩
          · omega
          obtain ⟨a0, a1, a2, a3, a4, a5, a6, a7, a8, a9, a10⟩ := hc k' hlt
          clear hc a0 a1 a2 a3 a4 HC HC'
          go_wp2
          all_goals first
            | (go_ret; exact ⟨⟨_, rfl⟩, rfl⟩)
            | (go_round
               case rel => exact ⟨k' + 1, _, by omega, by omega, by assumption, by go_num, rfl⟩
               case measure => simp [intOf]; omega)
        · go_wp2
          go_ret
          exact ⟨⟨_, rfl⟩, rfl⟩
end Go.Proofs.Qxb6609332a
