/-
  Seat b6609332a: the plain data (a place), how places lie in memory, and zzSamePlaces (function 10).
-/
import Derived.Test.Qxb6609332aRows
import Derived.WalkKit
import Derived.WalkSpells
import Derived.WalkLawsBesides
import Derived.BigQuiet
namespace Go.Proofs.Qxb6609332a
open Go.RowKit

/-- A place, plain. -/
structure Pl where
  depth : Int
  entry : Bool
  inHead : Bool
  block : Bool
  headBlock : Bool
  hd : ByteArray
  key : ByteArray
  dt : ByteArray
  kind : ByteArray
  raw : ByteArray
  text : ByteArray

/-- The eleven cells of a ZPlace. -/
def Pl.cells (p : Pl) : List Value := [.int .i64 p.depth, .bool p.entry, .bool p.inHead, .bool p.block, .bool p.headBlock, .string p.hd, .string p.key, .string p.dt, .string p.kind, .string p.raw, .string p.text]

/-- In the world w, from block b and offset o on, lie the eleven cells of p. -/
def At (w : World) (b o : Nat) (p : Pl) : Prop :=
  w.cell? ⟨b, o, none⟩ = some (.int .i64 p.depth) ∧ w.cell? ⟨b, o + 1, none⟩ = some (.bool p.entry) ∧ w.cell? ⟨b, o + 2, none⟩ = some (.bool p.inHead) ∧ w.cell? ⟨b, o + 3, none⟩ = some (.bool p.block) ∧
  w.cell? ⟨b, o + 4, none⟩ = some (.bool p.headBlock) ∧ w.cell? ⟨b, o + 5, none⟩ = some (.string p.hd) ∧ w.cell? ⟨b, o + 6, none⟩ = some (.string p.key) ∧ w.cell? ⟨b, o + 7, none⟩ = some (.string p.dt) ∧
  w.cell? ⟨b, o + 8, none⟩ = some (.string p.kind) ∧ w.cell? ⟨b, o + 9, none⟩ = some (.string p.raw) ∧ w.cell? ⟨b, o + 10, none⟩ = some (.string p.text)

/-- The slice at 'ao', of 'len' places, holds S 0, S 1, .. (an empty one may lie anywhere). -/
def PlsAt (w : World) (ao : Option Addr) (len : Nat) (S : Nat → Pl) : Prop :=
  len = 0 ∨ ∃ b off, ao = some ⟨b, off, none⟩ ∧ ∀ i, i < len → At w b (off + i * 11) (S i)

set_option maxHeartbeats 400000 in
theorem same_some (b off c b' off' c' len : Nat) (S : Nat → Pl) (w : World) (hm : len ≤ maxLen)
    (h1 : ∀ i, i < len → At w b (off + i * 11) (S i)) (h2 : ∀ i, i < len → At w b' (off' + i * 11) (S i)) :
    Calls Try.prog 10 #[.slice (some ⟨b, off, none⟩) len c, .slice (some ⟨b', off', none⟩) len c'] w fun e w' => e = .returned (.bool true) ∧ ∃ q, w' = w.drewN q := by
  unfold maxLen at hm
  go_enter Try.func10, Try.ntmps10
  go_wp2
  go_loopw [5] (fun i wr => ∃ k : Nat, k ≤ len ∧ i = .int .i64 k ∧ ∃ q, wr = w.drewN q) (fun i _ => len - (intOf i).toNat)
  case atStart => exact ⟨0, Nat.zero_le _, rfl, 0, rfl⟩
  case round =>
    obtain ⟨k, hk, rfl, q, rfl⟩ := hrel
    by_cases hlt : k < len
    · obtain ⟨a0, a1, a2, a3, a4, a5, a6, a7, a8, a9, a10⟩ := h1 k hlt
      obtain ⟨b0, b1, b2, b3, b4, b5, b6, b7, b8, b9, b10⟩ := h2 k hlt
      clear h1 h2
      go_wp2
      go_quiet (fail)
      go_wp2
      go_roundw
      case rel => exact ⟨k + 1, by omega, by go_num, _, rfl⟩
      case measure => simp [intOf]; omega
    · go_wp2
      go_ret
      exact ⟨rfl, q, rfl⟩

set_option maxHeartbeats 400000 in
theorem same_none (ao ao' : Option Addr) (c c' : Nat) (w : World) :
    Calls Try.prog 10 #[.slice ao 0 c, .slice ao' 0 c'] w fun e w' => e = .returned (.bool true) ∧ ∃ q, w' = w.drewN q := by
  go_enter Try.func10, Try.ntmps10
  go_wp2
  refine wp_loop_rounds 1 ?_
  rw [rounds_succ]
  go_wp2
  go_ret
  exact ⟨rfl, 0, rfl⟩

theorem same10 (ao ao' : Option Addr) (c c' len : Nat) (S : Nat → Pl) (w : World) (hm : len ≤ maxLen) (h1 : PlsAt w ao len S) (h2 : PlsAt w ao' len S) :
    Calls Try.prog 10 #[.slice ao len c, .slice ao' len c'] w fun e w' => e = .returned (.bool true) ∧ ∃ q, w' = w.drewN q := by
  rcases h1 with rfl | ⟨b, off, rfl, h1⟩
  · exact same_none ao ao' c c' w
  · rcases h2 with rfl | ⟨b', off', rfl, h2⟩
    · exact same_none _ ao' c c' w
    · exact same_some b off c b' off' c' len S w hm h1 h2
end Go.Proofs.Qxb6609332a
