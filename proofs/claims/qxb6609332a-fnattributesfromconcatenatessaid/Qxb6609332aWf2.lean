/-
  Seat b6609332a: zzWellFormed at every slice; zzToPlaces (function 9); slices.Values (15).
-/
import Derived.Test.Qxb6609332aWf
import Derived.Deep.OwnRows
namespace Go.Proofs.Qxb6609332a
open Go.RowKit

set_option maxHeartbeats 400000 in
theorem wf_none (ao : Option Addr) (cap : Nat) (S : Nat → Pl) (w : World) :
    Calls Try.prog 7 #[.slice ao 0 cap] w fun e w' => WfEnd S 0 e ∧ Below w.heap.size w w' := by
  go_enter Try.func7, Try.ntmps7
  go_wp2
  refine wp_loop_rounds 1 ?_
  rw [rounds_succ]
  go_wp2
  go_ret
  exact ⟨wfEnd_true (st := []) rfl, Below.refl _ _⟩

/-- The block of a slice's first cell lies in the heap. -/
theorem at_lt {w : World} {b o : Nat} {p : Pl} (h : At w b o p) : b < w.heap.size := World.block_lt_of_cell? w ⟨b, o, none⟩ h.1

theorem wf7 (ao : Option Addr) (len cap : Nat) (S : Nat → Pl) (w : World) (hm : len ≤ 16384) (hc : PlsAt w ao len S) :
    Calls Try.prog 7 #[.slice ao len cap] w fun e w' => WfEnd S len e ∧ Below w.heap.size w w' := by
  rcases hc with rfl | ⟨b, off, rfl, hc⟩
  · exact wf_none ao cap S w
  · by_cases h0 : len = 0
    · subst h0; exact wf_none _ cap S w
    · exact wf_some b off len cap S w hm (at_lt (hc 0 (by omega))) hc

/-! ### zzToPlaces -/
/-- The twelve cells of an aes.Place: a ZPlace's eleven and a nil Head. -/
def Pl.pcells (p : Pl) (j : Nat) : Value := (#[.int .i64 p.depth, .bool p.entry, .bool p.inHead, .bool p.block, .bool p.headBlock, .string p.hd, .string p.key, .string p.dt, .string p.kind, .string p.raw, .string p.text, .pointer none] : Array Value)[j]?.getD undef

theorem info48 : (Try.prog.info? 48).map (fun i => (i.zero, i.size, i.bytes)) = some (some (.agg #[.int .i64 0, .bool false, .bool false, .bool false, .bool false, .string ⟨#[]⟩, .string ⟨#[]⟩, .string ⟨#[]⟩, .string ⟨#[]⟩, .string ⟨#[]⟩, .string ⟨#[]⟩, .pointer none]), 12, 120) := by kernel_rfl
def newPlaces (n : Nat) : Array Value := madeCells #[.int .i64 0, .bool false, .bool false, .bool false, .bool false, .string ⟨#[]⟩, .string ⟨#[]⟩, .string ⟨#[]⟩, .string ⟨#[]⟩, .string ⟨#[]⟩, .string ⟨#[]⟩, .pointer none] (n * 12)
theorem size_newPlaces (n : Nat) : (newPlaces n).size = n * 12 := size_madeCells _ _
theorem make27 (n : Nat) (hn : n ≤ 65536) (w : World) :
    (Instr.makeSlice 27 (.int .i64 n) (.int .i64 n)).run Try.prog w = .ok (.slice (some ⟨w.heap.size, 0, none⟩) n n) (w.alloc (.cells (newPlaces n) 48)) := by
  obtain ⟨i, hi, hz0, hz1, hz2⟩ := info_parts info48
  have hr := run_make (P := Try.prog) w 27 48 i _ Try.underlying27 hi hz0 .i64 .i64 n n (by omega) (Int.le_refl _) (by rw [hz2]; omega) (by omega)
  rw [hr, hz1]
  simp [newPlaces, Value.cells]

/-- The places so far: block g, 12n cells, the first k places laid. -/
def PRow (w : World) (g n k : Nat) (S : Nat → Pl) : Prop :=
  ∃ f : Nat → Value, w.rowIs g 48 (n * 12) f ∧ ∀ j, j < k → ∀ t, t < 12 → f (j * 12 + t) = (S j).pcells t
theorem pRow_new (w : World) (n : Nat) (S : Nat → Pl) : PRow (w.alloc (.cells (newPlaces n) 48)) w.heap.size n 0 S := by
  refine ⟨fun i => (newPlaces n)[i]!, ?_, fun j hj => absurd hj (Nat.not_lt_zero _)⟩
  have := World.rowIs_alloc w (newPlaces n) 48 (fun i => (newPlaces n)[i]!) (fun i hi => by simp [hi])
  rwa [size_newPlaces] at this
theorem pRow_step {w : World} {g n k : Nat} {S : Nat → Pl} (h : PRow w g n k S) (p : Pl) (hp : S k = p) :
    PRow ((((((((((((w.setCell ⟨g, k * 12, none⟩ (.int .i64 p.depth)).setCell ⟨g, k * 12 + 1, none⟩ (.bool p.entry)).setCell ⟨g, k * 12 + 2, none⟩ (.bool p.inHead)).setCell ⟨g, k * 12 + 3, none⟩ (.bool p.block)).setCell ⟨g, k * 12 + 4, none⟩ (.bool p.headBlock)).setCell ⟨g, k * 12 + 5, none⟩ (.string p.hd)).setCell ⟨g, k * 12 + 6, none⟩ (.string p.key)).setCell ⟨g, k * 12 + 7, none⟩ (.string p.dt)).setCell ⟨g, k * 12 + 8, none⟩ (.string p.kind)).setCell ⟨g, k * 12 + 9, none⟩ (.string p.raw)).setCell ⟨g, k * 12 + 10, none⟩ (.string p.text)).setCell ⟨g, k * 12 + 11, none⟩ (.pointer none)) g n (k + 1) S := by
  obtain ⟨f, hr, hf⟩ := h
  refine ⟨_, ((((((((((((hr.set (k * 12) (.int .i64 p.depth)).set (k * 12 + 1) (.bool p.entry)).set (k * 12 + 2) (.bool p.inHead)).set (k * 12 + 3) (.bool p.block)).set (k * 12 + 4) (.bool p.headBlock)).set (k * 12 + 5) (.string p.hd)).set (k * 12 + 6) (.string p.key)).set (k * 12 + 7) (.string p.dt)).set (k * 12 + 8) (.string p.kind)).set (k * 12 + 9) (.string p.raw)).set (k * 12 + 10) (.string p.text)).set (k * 12 + 11) (.pointer none)), fun j hj t ht => ?_⟩
  by_cases e : j = k
  · subst e
    rw [hp]
    have ht' : t = 0 ∨ t = 1 ∨ t = 2 ∨ t = 3 ∨ t = 4 ∨ t = 5 ∨ t = 6 ∨ t = 7 ∨ t = 8 ∨ t = 9 ∨ t = 10 ∨ t = 11 := by omega
    rcases ht' with rfl | rfl | rfl | rfl | rfl | rfl | rfl | rfl | rfl | rfl | rfl | rfl <;> simp [Pl.pcells]
  · have := hf j (by omega) t ht
    have ne : ∀ i, i < 12 → ¬ j * 12 + t = k * 12 + i := fun i hi => by omega
    have n0 : ¬ j * 12 + t = k * 12 := by omega
    simp only [n0, ne 1 (by omega), ne 2 (by omega), ne 3 (by omega), ne 4 (by omega), ne 5 (by omega), ne 6 (by omega), ne 7 (by omega), ne 8 (by omega), ne 9 (by omega), ne 10 (by omega), ne 11 (by omega), if_false]
    exact this
theorem pRow_cells {w : World} {g n k : Nat} {S : Nat → Pl} (h : PRow w g n k S) (hk : k < n) :
    (∀ t, t < 12 → ∃ u, w.cell? ⟨g, k * 12 + t, none⟩ = some u) ∧ ∀ t, w.frozen? ⟨g, t, none⟩ = false := by
  obtain ⟨f, hr, hf⟩ := h
  exact ⟨fun t ht => ⟨_, hr.cell (by omega)⟩, fun t => hr.frozen _⟩

theorem pRow_alloc {w : World} {g n k : Nat} {S : Nat → Pl} (h : PRow w g n k S) (o : Obj) : PRow (w.alloc o) g n k S := by
  obtain ⟨f, hr, hf⟩ := h
  exact ⟨f, hr.alloc o, hf⟩
theorem belowRow {B g : Nat} {a w : World} (h : Below B a w) (hg : B ≤ g) (hs : B ≤ w.heap.size) {o0 o1 o2 o3 o4 o5 o6 o7 o8 o9 o10 o11 : Nat} (u0 u1 u2 u3 u4 u5 u6 u7 u8 u9 u10 u11 : Value) (o : Obj) :
    Below B a (((((((((((((w.setCell ⟨g, o0, none⟩ u0).setCell ⟨g, o1, none⟩ u1).setCell ⟨g, o2, none⟩ u2).setCell ⟨g, o3, none⟩ u3).setCell ⟨g, o4, none⟩ u4).setCell ⟨g, o5, none⟩ u5).setCell ⟨g, o6, none⟩ u6).setCell ⟨g, o7, none⟩ u7).setCell ⟨g, o8, none⟩ u8).setCell ⟨g, o9, none⟩ u9).setCell ⟨g, o10, none⟩ u10).setCell ⟨g, o11, none⟩ u11).alloc o) := ((((((((((((h.setCell (p := ⟨g, o0, none⟩) hg u0).setCell (p := ⟨g, o1, none⟩) hg u1).setCell (p := ⟨g, o2, none⟩) hg u2).setCell (p := ⟨g, o3, none⟩) hg u3).setCell (p := ⟨g, o4, none⟩) hg u4).setCell (p := ⟨g, o5, none⟩) hg u5).setCell (p := ⟨g, o6, none⟩) hg u6).setCell (p := ⟨g, o7, none⟩) hg u7).setCell (p := ⟨g, o8, none⟩) hg u8).setCell (p := ⟨g, o9, none⟩) hg u9).setCell (p := ⟨g, o10, none⟩) hg u10).setCell (p := ⟨g, o11, none⟩) hg u11).alloc (by simp [World.setCell]; omega) o

set_option maxHeartbeats 2000000 in
theorem toPlaces_some (b off len cap : Nat) (S : Nat → Pl) (w : World) (hm : len ≤ 32768) (hb : b < w.heap.size) (hc : ∀ i, i < len → At w b (off + i * 11) (S i)) :
    Calls Try.prog 9 #[.slice (some ⟨b, off, none⟩) len cap] w fun e w' => e = .returned (.slice (some ⟨w.heap.size, 0, none⟩) len len) ∧ PRow w' w.heap.size len len S ∧ Below w.heap.size w w' := by
  have hmk := make27 len (by omega)
  go_enter Try.func9, Try.ntmps9
  go_wp2
  go_loopw [4] (fun i wr => ∃ k : Nat, k ≤ len ∧ i = .int .i64 k ∧ PRow wr w.heap.size len k S ∧ Below w.heap.size w wr) (fun i _ => len - (intOf i).toNat)
  case atStart => exact ⟨0, Nat.zero_le _, rfl, pRow_new w len S, (Below.refl _ _).alloc (Nat.le_refl _) _⟩
  case round =>
    obtain ⟨k, hk, rfl, hrow, hbl⟩ := hrel
    have HR : Hid (PRow wr w.heap.size len k S) := hrow
    have hgw : w.heap.size < wr.heap.size := by obtain ⟨f, hr, _⟩ := hrow; exact hr.lt
    have HB : Hid (Below w.heap.size w wr) := hbl
    by_cases hlt : k < len
    · obtain ⟨hcs, hfz⟩ := pRow_cells hrow hlt
      obtain ⟨a0, a1, a2, a3, a4, a5, a6, a7, a8, a9, a10⟩ := hc k hlt
      have hq : ∀ o, wr.cell? ⟨b, o, none⟩ = w.cell? ⟨b, o, none⟩ := fun o => hbl.cell (by exact hb)
      rw [← hq] at a0 a1 a2 a3 a4 a5 a6 a7 a8 a9 a10
      obtain ⟨y0, b0⟩ := hcs 0 (by omega)
      obtain ⟨y1, b1⟩ := hcs 1 (by omega)
      obtain ⟨y2, b2⟩ := hcs 2 (by omega)
      obtain ⟨y3, b3⟩ := hcs 3 (by omega)
      obtain ⟨y4, b4⟩ := hcs 4 (by omega)
      obtain ⟨y5, b5⟩ := hcs 5 (by omega)
      obtain ⟨y6, b6⟩ := hcs 6 (by omega)
      obtain ⟨y7, b7⟩ := hcs 7 (by omega)
      obtain ⟨y8, b8⟩ := hcs 8 (by omega)
      obtain ⟨y9, b9⟩ := hcs 9 (by omega)
      obtain ⟨y10, b10⟩ := hcs 10 (by omega)
      obtain ⟨y11, b11⟩ := hcs 11 (by omega)
      rw [Nat.add_zero] at b0
      have HP : Hid (∃ p, S k = p) := ⟨_, rfl⟩
      generalize hp : S k = p at *
      have HPE : Hid (S k = p) := hp
      clear hrow hbl hc hmk hcs hq hp HP
      go_wp2
      go_roundw
      case rel =>
        exact ⟨k + 1, by omega, by go_num, pRow_alloc (pRow_step HR.out p HPE.out) _, belowRow HB.out (Nat.le_refl _) (by omega) _ _ _ _ _ _ _ _ _ _ _ _ _⟩
      case measure => simp [intOf]; omega
    · go_wp2
      go_ret
      obtain rfl : k = len := by omega
      exact ⟨rfl, hrow, hbl⟩

set_option maxHeartbeats 400000 in
theorem toPlaces_none (ao : Option Addr) (cap : Nat) (S : Nat → Pl) (w : World) :
    Calls Try.prog 9 #[.slice ao 0 cap] w fun e w' => e = .returned (.slice (some ⟨w.heap.size, 0, none⟩) 0 0) ∧ PRow w' w.heap.size 0 0 S ∧ Below w.heap.size w w' := by
  have hmk := make27 0 (by omega)
  simp only [Int.natCast_zero] at hmk
  go_enter Try.func9, Try.ntmps9
  go_wp2
  refine wp_loop_rounds 1 ?_
  rw [rounds_succ]
  go_wp2
  go_ret
  exact ⟨rfl, pRow_new w 0 S, (Below.refl _ _).alloc (Nat.le_refl _) _⟩

theorem toPlaces9 (ao : Option Addr) (len cap : Nat) (S : Nat → Pl) (w : World) (hm : len ≤ 32768) (hc : PlsAt w ao len S) :
    Calls Try.prog 9 #[.slice ao len cap] w fun e w' => e = .returned (.slice (some ⟨w.heap.size, 0, none⟩) len len) ∧ PRow w' w.heap.size len len S ∧ Below w.heap.size w w' := by
  rcases hc with rfl | ⟨b, off, rfl, hc⟩
  · exact toPlaces_none ao cap S w
  · by_cases h0 : len = 0
    · subst h0; exact toPlaces_none _ cap S w
    · exact toPlaces_some b off len cap S w hm (at_lt (hc 0 (by omega))) hc

set_option maxHeartbeats 400000 in
theorem values15 (v : Value) (a : Option Addr) (len cap : Nat) (hv : v = .slice a len cap) (w : World) :
    Calls Try.prog 15 #[v] w fun e w' => e = .returned (.func (.func 17) #[] #[.pointer (some ⟨w.heap.size, 0, none⟩)]) ∧ w.alloc (.cells #[v] 27) = w' := by
  subst hv
  go_enter Try.func15, Try.ntmps15
  go_wp2
  go_ret
  exact ⟨rfl, rfl⟩
end Go.Proofs.Qxb6609332a
