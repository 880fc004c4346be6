/-
  Seat b6609332a: the closure of slices.Values (function 17): each place is handed to the loop's body, in order.
-/
import Derived.Test.Qxb6609332aWf2
import Derived.RangeFuncBox
import Derived.RangeFuncLeaves
import Derived.Shelf.Abstract
import Derived.OwnWalkIn
import Derived.TacticsInMore
import Derived.LoopNIn
import Derived.LoopIn
namespace Go.Proofs.Qxb6609332a
open Go.RowKit

attribute [local go_sem] Oper.semAt_some

/-- The value of a place. -/
def Pl.agg (p : Pl) : Value := .agg #[.int .i64 p.depth, .bool p.entry, .bool p.inHead, .bool p.block, .bool p.headBlock, .string p.hd, .string p.key, .string p.dt, .string p.kind, .string p.raw, .string p.text, .pointer none]

theorem pRow_at {w : World} {g n k : Nat} {S : Nat → Pl} (h : PRow w g n n S) (hk : k < n) (t : Nat) (ht : t < 12) : w.cell? ⟨g, k * 12 + t, none⟩ = some ((S k).pcells t) := by
  obtain ⟨f, hr, hf⟩ := h
  rw [hr.cell (by omega), hf k hk t ht]

set_option maxRecDepth 100000 in
set_option maxHeartbeats 2000000 in
theorem values17 (m l Bs g n N0 : Nat) (S : Nat → Pl) (hn : n ≤ 40000) (hg : g < N0) (J : Nat → World → Prop)
    (hJ : ∀ k W o, J k W → J k (W.alloc o))
    (hY : ∀ k W, k < n → J k W → YieldAt Fence.wide (m - 1) Try.prog l #[(S k).agg] W fun e W' => e = .returned (.bool true) ∧ J (k + 1) W' ∧ Below N0 W W')
    (W : World) (hBs : W.cell? ⟨Bs, 0, none⟩ = some (.slice (some ⟨g, 0, none⟩) n n)) (hP : PRow W g n n S) (hN : N0 ≤ W.heap.size) (h0 : J 0 W) :
    CallsIn Fence.wide m Try.prog 17 #[.func (.yield l) #[] #[], .pointer (some ⟨Bs, 0, none⟩)] W fun e W' => (∃ v, e = .returned v) ∧ J n W' := by
  refine callsIn_of_wp Try.func17 rfl trivial ?_ rfl
  simp only [Try.ntmps17, List.size_toArray, List.length_cons, List.length_nil, Nat.reduceAdd, Nat.reduceSub, Array.replicate_succ, Array.replicate_zero, List.push_toArray, List.append_toArray, List.nil_append, List.cons_append]
  gi_wp2
  gi_loopw [7] (fun i wr => ∃ k : Nat, k ≤ n ∧ i = .int .i64 k ∧ J k wr ∧ Below N0 W wr) (fun i _ => n - (intOf i).toNat)
  case atStart => exact ⟨0, Nat.zero_le _, rfl, h0, Below.refl _ _⟩
  case round =>
    obtain ⟨k, hk, rfl, hJk, hB⟩ := hrel
    by_cases hlt : k < n
    · have cc : ∀ t, t < 12 → wr.cell? ⟨g, k * 12 + t, none⟩ = some ((S k).pcells t) := fun t ht => (hB.cell (p := ⟨g, k * 12 + t, none⟩) hg).trans (pRow_at hP hlt t ht)
      have c0 := cc 0 (by omega)
      have c1 := cc 1 (by omega)
      have c2 := cc 2 (by omega)
      have c3 := cc 3 (by omega)
      have c4 := cc 4 (by omega)
      have c5 := cc 5 (by omega)
      have c6 := cc 6 (by omega)
      have c7 := cc 7 (by omega)
      have c8 := cc 8 (by omega)
      have c9 := cc 9 (by omega)
      have c10 := cc 10 (by omega)
      have c11 := cc 11 (by omega)
      simp only [Pl.pcells, Nat.add_zero, List.getElem?_toArray, List.getElem?_cons_succ, List.getElem?_cons_zero, Option.getD_some] at c0 c1 c2 c3 c4 c5 c6 c7 c8 c9 c10 c11
      have hHs := hB.size
      obtain ⟨fn, tmps, assign, body, hy, hR⟩ := hY k (wr.alloc (.cells #[.int .i64 (S k).depth, .bool (S k).entry, .bool (S k).inHead, .bool (S k).block, .bool (S k).headBlock, .string (S k).hd, .string (S k).key, .string (S k).dt, .string (S k).kind, .string (S k).raw, .string (S k).text, .pointer none] 48)) hlt (hJ _ _ _ hJk)
      unfold Pl.agg at hy
      have HB : Hid (Below N0 W (wr.alloc (.cells #[.int .i64 (S k).depth, .bool (S k).entry, .bool (S k).inHead, .bool (S k).block, .bool (S k).headBlock, .string (S k).hd, .string (S k).key, .string (S k).dt, .string (S k).kind, .string (S k).raw, .string (S k).text, .pointer none] 48))) := hB.alloc (Nat.le_trans hN hHs) _
      clear cc hP hB hY hJ hJk h0
      gi_wp2
      refine ⟨fun h => by simp [Fence.wide] at h, hR.mono ?_⟩
      rintro e W3 ⟨rfl, hJ3, hk3⟩
      gi_wp2
      go_roundw
      case rel => exact ⟨k + 1, by omega, by go_num, hJ3, HB.out.trans hk3⟩
      case measure => simp [intOf]; omega
    · obtain rfl : k = n := by omega
      gi_wp2
      go_end0
      exact ⟨⟨_, rfl⟩, hJk⟩
end Go.Proofs.Qxb6609332a
