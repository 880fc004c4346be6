/-
  The walks of seat b6609182aD: (MessageKind).Valid (function 5), FnValidIsOneThroughEight (function 3), FnValidExactlyTheEightNamedKinds (function 4), over the nine cells of kindNames.
-/
import Derived.Test.Qxb6609182aDoorRows
import Derived.WalkKit
import Derived.WalkSpells
namespace Go.Proofs.Qxb6609182aDoor
open Go.RowKit

/-- The nine strings of kindNames, at their places. -/
def names : Array Value := #[.string ⟨#[]⟩, .string ⟨#[118, 111, 116, 101]⟩, .string ⟨#[118, 111, 116, 101, 45, 114, 101, 115, 112, 111, 110, 115, 101]⟩, .string ⟨#[97, 112, 112, 101, 110, 100]⟩, .string ⟨#[97, 112, 112, 101, 110, 100, 45, 114, 101, 115, 112, 111, 110, 115, 101]⟩, .string ⟨#[112, 114, 101, 45, 118, 111, 116, 101]⟩, .string ⟨#[112, 114, 101, 45, 118, 111, 116, 101, 45, 114, 101, 115, 112, 111, 110, 115, 101]⟩, .string ⟨#[115, 110, 97, 112, 115, 104, 111, 116]⟩, .string ⟨#[116, 105, 109, 101, 111, 117, 116, 45, 110, 111, 119]⟩]

/-- What a walk asks of the world: the variable's nine cells. -/
def Laid (w : World) : Prop := ∀ i : Nat, i < 9 → w.cell? ⟨0, i, none⟩ = names[i]?

theorem valid_big (k : Int) (w : World) (h : 9 ≤ k) (h' : k ≤ 255) : Calls Tryd.prog 5 #[.int .u8 k] w fun e w' => e = .returned (.bool false) ∧ w' = w := by
  go_enter Tryd.func5, Tryd.ntmps5
  go_wp2
  go_ret
  exact ⟨rfl, rfl⟩
theorem valid_zero (w : World) (hl : Laid w) : Calls Tryd.prog 5 #[.int .u8 0] w fun e w' => e = .returned (.bool false) ∧ w' = w := by
  have c : w.cell? ⟨0, 0, none⟩ = some (.string ⟨#[]⟩) := hl 0 (by decide)
  clear hl
  go_enter Tryd.func5, Tryd.ntmps5
  go_wp2
  go_ret
  exact ⟨rfl, rfl⟩
theorem valid_1 (w : World) (hl : Laid w) : Calls Tryd.prog 5 #[.int .u8 1] w fun e w' => e = .returned (.bool true) ∧ w' = w := by
  have c : w.cell? ⟨0, 1, none⟩ = some (.string ⟨#[118, 111, 116, 101]⟩) := hl 1 (by decide)
  clear hl
  go_enter Tryd.func5, Tryd.ntmps5
  go_wp2
  go_ret
  exact ⟨rfl, rfl⟩
theorem valid_2 (w : World) (hl : Laid w) : Calls Tryd.prog 5 #[.int .u8 2] w fun e w' => e = .returned (.bool true) ∧ w' = w := by
  have c : w.cell? ⟨0, 2, none⟩ = some (.string ⟨#[118, 111, 116, 101, 45, 114, 101, 115, 112, 111, 110, 115, 101]⟩) := hl 2 (by decide)
  clear hl
  go_enter Tryd.func5, Tryd.ntmps5
  go_wp2
  go_ret
  exact ⟨rfl, rfl⟩
theorem valid_3 (w : World) (hl : Laid w) : Calls Tryd.prog 5 #[.int .u8 3] w fun e w' => e = .returned (.bool true) ∧ w' = w := by
  have c : w.cell? ⟨0, 3, none⟩ = some (.string ⟨#[97, 112, 112, 101, 110, 100]⟩) := hl 3 (by decide)
  clear hl
  go_enter Tryd.func5, Tryd.ntmps5
  go_wp2
  go_ret
  exact ⟨rfl, rfl⟩
theorem valid_4 (w : World) (hl : Laid w) : Calls Tryd.prog 5 #[.int .u8 4] w fun e w' => e = .returned (.bool true) ∧ w' = w := by
  have c : w.cell? ⟨0, 4, none⟩ = some (.string ⟨#[97, 112, 112, 101, 110, 100, 45, 114, 101, 115, 112, 111, 110, 115, 101]⟩) := hl 4 (by decide)
  clear hl
  go_enter Tryd.func5, Tryd.ntmps5
  go_wp2
  go_ret
  exact ⟨rfl, rfl⟩
theorem valid_5 (w : World) (hl : Laid w) : Calls Tryd.prog 5 #[.int .u8 5] w fun e w' => e = .returned (.bool true) ∧ w' = w := by
  have c : w.cell? ⟨0, 5, none⟩ = some (.string ⟨#[112, 114, 101, 45, 118, 111, 116, 101]⟩) := hl 5 (by decide)
  clear hl
  go_enter Tryd.func5, Tryd.ntmps5
  go_wp2
  go_ret
  exact ⟨rfl, rfl⟩
theorem valid_6 (w : World) (hl : Laid w) : Calls Tryd.prog 5 #[.int .u8 6] w fun e w' => e = .returned (.bool true) ∧ w' = w := by
  have c : w.cell? ⟨0, 6, none⟩ = some (.string ⟨#[112, 114, 101, 45, 118, 111, 116, 101, 45, 114, 101, 115, 112, 111, 110, 115, 101]⟩) := hl 6 (by decide)
  clear hl
  go_enter Tryd.func5, Tryd.ntmps5
  go_wp2
  go_ret
  exact ⟨rfl, rfl⟩
theorem valid_7 (w : World) (hl : Laid w) : Calls Tryd.prog 5 #[.int .u8 7] w fun e w' => e = .returned (.bool true) ∧ w' = w := by
  have c : w.cell? ⟨0, 7, none⟩ = some (.string ⟨#[115, 110, 97, 112, 115, 104, 111, 116]⟩) := hl 7 (by decide)
  clear hl
  go_enter Tryd.func5, Tryd.ntmps5
  go_wp2
  go_ret
  exact ⟨rfl, rfl⟩
theorem valid_8 (w : World) (hl : Laid w) : Calls Tryd.prog 5 #[.int .u8 8] w fun e w' => e = .returned (.bool true) ∧ w' = w := by
  have c : w.cell? ⟨0, 8, none⟩ = some (.string ⟨#[116, 105, 109, 101, 111, 117, 116, 45, 110, 111, 119]⟩) := hl 8 (by decide)
  clear hl
  go_enter Tryd.func5, Tryd.ntmps5
  go_wp2
  go_ret
  exact ⟨rfl, rfl⟩
/-- Valid's contract at the kinds 1 to 8, and at all others. -/
theorem valid_yes (k : Int) (w : World) (hl : Laid w) (h1 : 1 ≤ k) (h8 : k ≤ 8) : Calls Tryd.prog 5 #[.int .u8 k] w fun e w' => e = .returned (.bool true) ∧ w' = w := by
  have h : k = 1 ∨ k = 2 ∨ k = 3 ∨ k = 4 ∨ k = 5 ∨ k = 6 ∨ k = 7 ∨ k = 8 := by omega
  rcases h with rfl | rfl | rfl | rfl | rfl | rfl | rfl | rfl
  · exact valid_1 w hl
  · exact valid_2 w hl
  · exact valid_3 w hl
  · exact valid_4 w hl
  · exact valid_5 w hl
  · exact valid_6 w hl
  · exact valid_7 w hl
  · exact valid_8 w hl
theorem valid_no (k : Int) (w : World) (hl : Laid w) (h0 : 0 ≤ k) (h255 : k ≤ 255) (h : ¬ (1 ≤ k ∧ k ≤ 8)) : Calls Tryd.prog 5 #[.int .u8 k] w fun e w' => e = .returned (.bool false) ∧ w' = w := by
  by_cases hz : k = 0
  · subst hz
    exact valid_zero w hl
  · exact valid_big k w (by omega) h255

/-! ### Function 3 -/
set_option maxHeartbeats 400000 in
theorem one_through_eight (k : Int) (w : World) (hl : Laid w) (h0 : 0 ≤ k) (h255 : k ≤ 255) :
    Calls Tryd.prog 3 #[.int .u8 k] w fun e w' => e = .returned (.bool true) ∧ w' = w := by
  by_cases h1 : 1 ≤ k
  · by_cases h8 : k ≤ 8
    · go_enter Tryd.func3, Tryd.ntmps3
      go_wp2_with (go_at_call 5; refine (valid_yes _ _ hl h1 h8).mono ?_; rintro e w' ⟨rfl, rfl⟩)
      go_ret
      exact ⟨rfl, rfl⟩
    · have hn : ¬ (1 ≤ k ∧ k ≤ 8) := by omega
      have hd : decide (k ≤ 8) = false := by simpa using h8
      go_enter Tryd.func3, Tryd.ntmps3
      go_wp2_with (go_at_call 5; refine (valid_no _ _ hl h0 h255 hn).mono ?_; rintro e w' ⟨rfl, rfl⟩)
      go_ret
      exact ⟨by simp, rfl⟩
  · have hn : ¬ (1 ≤ k ∧ k ≤ 8) := by omega
    go_enter Tryd.func3, Tryd.ntmps3
    go_wp2_with (go_at_call 5; refine (valid_no _ _ hl h0 h255 hn).mono ?_; rintro e w' ⟨rfl, rfl⟩)
    go_ret
    exact ⟨rfl, rfl⟩

/-! ### Function 4 -/
/-- How many of the kinds below v are valid. -/
def cnt (v : Nat) : Int := if v ≤ 1 then 0 else if v ≤ 9 then (v : Int) - 1 else 8
theorem cnt_bd (v : Nat) : 0 ≤ cnt v ∧ cnt v ≤ 8 := by unfold cnt; split <;> (try split) <;> omega
theorem cnt_yes (v : Nat) (h1 : 1 ≤ v) (h8 : v ≤ 8) : cnt (v + 1) = cnt v + 1 := by unfold cnt; split <;> split <;> (try split) <;> omega
theorem cnt_no (v : Nat) (h : ¬ (1 ≤ v ∧ v ≤ 8)) : cnt (v + 1) = cnt v := by unfold cnt; split <;> split <;> (try split) <;> (try split) <;> omega
theorem cnt_end : cnt 256 = 8 := rfl
set_option maxRecDepth 20000 in
set_option maxHeartbeats 400000 in
theorem exactly_eight (w : World) (hl : Laid w) :
    Calls Tryd.prog 4 #[] w fun e w' => e = .returned (.bool true) ∧ w' = w := by
  go_enter Tryd.func4, Tryd.ntmps4
  go_wp2
  go_loop [1, 2] (fun c v => ∃ k : Nat, k ≤ 256 ∧ v = .int .i64 k ∧ c = .int .i64 (cnt k)) (fun _ v => 256 - (intOf v).toNat)
  case atStart => exact ⟨0, Nat.zero_le _, rfl, rfl⟩
  case round =>
    obtain ⟨k, hk, rfl, rfl⟩ := hrel
    have hb := cnt_bd k
    by_cases hlt : k < 256
    · by_cases hv : 1 ≤ k ∧ k ≤ 8
      · have hc : Hid (cnt (k + 1) = cnt k + 1) := cnt_yes k hv.1 hv.2
        obtain ⟨h1, h8⟩ := hv
        go_wp2_with (go_at_call 5; refine (valid_yes _ _ hl (by omega) (by omega)).mono ?_; rintro e w' ⟨rfl, rfl⟩)
        go_round
        case rel => exact ⟨k + 1, by omega, by go_num, by rw [hc.out]⟩
        case measure => simp [intOf]; omega
      · have hc : Hid (cnt (k + 1) = cnt k) := cnt_no k hv
        go_wp2_with (go_at_call 5; refine (valid_no _ _ hl (by omega) (by omega) (by omega)).mono ?_; rintro e w' ⟨rfl, rfl⟩)
        go_round
        case rel => exact ⟨k + 1, by omega, by go_num, by rw [hc.out]⟩
        case measure => simp [intOf]; omega
    · have hend : (cnt k == 8) = true := by
        obtain rfl : k = 256 := by omega
        rw [cnt_end]; rfl
      go_wp2_with (go_at_call 5; refine (valid_yes _ _ hl (by omega) (by omega)).mono ?_; rintro e w' ⟨rfl, rfl⟩)
      go_ret
      exact ⟨rfl, rfl⟩
end Go.Proofs.Qxb6609182aDoor
