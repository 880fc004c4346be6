/-
  Seat b6609201a: the walks of Lookup's closure (function 12), sort.Search at it (11), Lookup (10), ZZLookupIndex (8).
-/
import Derived.Test.Qxb6609201aWalkA
import Derived.Deep.OwnRows
namespace Go.Proofs.Qxb6609201a
open Go.RowKit

/-- What the closure is asked: 'members[i].Name >= name'. -/
def geS (a b : ByteArray) : Bool := !(Op.bytesLess a.toList b.toList)

set_option maxHeartbeats 400000 in
theorem closure12 (bm bn g n c i : Nat) (s nm : ByteArray) (w : World) (hi : i < n)
    (h1 : w.cell? ⟨bm, 0, none⟩ = some (.slice (some ⟨g, 0, none⟩) n c)) (h2 : w.cell? ⟨bn, 0, none⟩ = some (.string nm)) (h3 : w.cell? ⟨g, i * 2, none⟩ = some (.string s)) :
    Calls Try.prog 12 #[.int .i64 i, .pointer (some ⟨bm, 0, none⟩), .pointer (some ⟨bn, 0, none⟩)] w fun e w' => e = .returned (.bool (geS s nm)) ∧ ∃ q, w' = w.drewN q := by
  go_enter Try.func12, Try.ntmps12
  go_wp2
  go_quiet (fail)
  go_wp2
  go_ret
  exact ⟨rfl, _, rfl⟩

/-- What sort.Search gives: an index that parts the strings below the name from one that is not. -/
def Parts (S : Nat → ByteArray) (nm : ByteArray) (n r : Nat) : Prop := r ≤ n ∧ (r = 0 ∨ geS (S (r - 1)) nm = false) ∧ (r = n ∨ geS (S r) nm = true)
def SearchEnd (S : Nat → ByteArray) (nm : ByteArray) (n : Nat) (e : Ending) : Prop := ∃ r : Nat, Parts S nm n r ∧ e = .returned (.int .i64 r)

set_option maxHeartbeats 400000 in
theorem search11 (bm bn g n c : Nat) (S : Nat → ByteArray) (nm : ByteArray) (w : World) (hn : n ≤ 65536)
    (h1 : w.cell? ⟨bm, 0, none⟩ = some (.slice (some ⟨g, 0, none⟩) n c)) (h2 : w.cell? ⟨bn, 0, none⟩ = some (.string nm)) (h3 : ∀ i, i < n → w.cell? ⟨g, i * 2, none⟩ = some (.string (S i))) :
    Calls Try.prog 11 #[.int .i64 n, .func (.func 12) #[] #[.pointer (some ⟨bm, 0, none⟩), .pointer (some ⟨bn, 0, none⟩)]] w fun e w' => SearchEnd S nm n e ∧ ∃ q, w' = w.drewN q := by
  go_enter Try.func11, Try.ntmps11
  go_wp2
  go_loopw [5, 6] (fun lo hi wr => ∃ l h : Nat, l ≤ h ∧ h ≤ n ∧ lo = .int .i64 l ∧ hi = .int .i64 h ∧ (l = 0 ∨ geS (S (l - 1)) nm = false) ∧ (h = n ∨ geS (S h) nm = true) ∧ ∃ q, wr = w.drewN q)
    (fun lo hi _ => (intOf hi).toNat - (intOf lo).toNat)
  case atStart => exact ⟨0, n, Nat.zero_le _, Nat.le_refl _, rfl, rfl, Or.inl rfl, Or.inl rfl, 0, rfl⟩
  case round =>
    obtain ⟨l, h, hlh, hhn, rfl, rfl, hL, hH, q, rfl⟩ := hrel
    have HL : Hid (l = 0 ∨ geS (S (l - 1)) nm = false) := hL
    have HH : Hid (h = n ∨ geS (S h) nm = true) := hH
    clear hL hH
    by_cases hlt : l < h
    · obtain ⟨m, hm⟩ : ∃ m : Nat, m = (l + h) / 2 := ⟨_, rfl⟩
      have em : Hid (((l : Int) + (h : Int)) / 2 = (m : Int)) := show _ = _ by omega
      have b1 : l ≤ m := by omega
      have b2 : m < h := by omega
      clear hm
      go_wp2_with fail
      rw [em.out]
      refine (closure12 bm bn g n c m (S m) nm _ (by omega) (by simpa using h1) (by simpa using h2) (by simpa using h3 m (by omega))).mono ?_
      rintro e w' ⟨rfl, q2, rfl⟩
      cases hg : geS (S m) nm with
      | true =>
        have HG : Hid (geS (S m) nm = true) := hg
        clear hg
        go_wp2
        go_roundw
        case rel => exact ⟨l, m, b1, by omega, rfl, rfl, HL.out, Or.inr HG.out, q + q2, by simp⟩
        case measure => simp [intOf]; omega
      | false =>
        have HG : Hid (geS (S m) nm = false) := hg
        clear hg
        go_wp2
        go_roundw
        case rel => exact ⟨m + 1, h, by omega, hhn, by go_num, rfl, Or.inr HG.out, HH.out, q + q2, by simp⟩
        case measure => simp [intOf]; omega
    · go_wp2
      go_ret
      have e : l = h := by omega
      subst e
      exact ⟨⟨l, ⟨hhn, HL.out, HH.out⟩, rfl⟩, q, rfl⟩

/-- How Lookup ends: at the parting index r the member's own value (its index), if its name is the name; else nil. -/
def eqS (a b : ByteArray) : Bool := a.toList == b.toList
def LookupEnd (S : Nat → ByteArray) (nm : ByteArray) (n : Nat) (e : Ending) : Prop :=
  ∃ r : Nat, Parts S nm n r ∧ ((r < n ∧ eqS (S r) nm = true ∧ e = .returned (.iface 3 (.int .i64 r))) ∨ ((r < n → eqS (S r) nm = false) ∧ e = .returned .nilIface))

theorem below_two (w : World) (o1 o2 : Obj) (q nq : Nat) : Below w.heap.size w ((((w.alloc o1).alloc o2).drewN q).drewN nq) :=
  below_drewN (below_drewN (((Below.refl _ _).alloc (Nat.le_refl _) _).alloc (by simp) _) _) _

set_option maxHeartbeats 400000 in
theorem lookup10 (g n c : Nat) (S : Nat → ByteArray) (nm : ByteArray) (w : World) (hn : n ≤ 65536) (hg : g < w.heap.size)
    (h3 : ∀ i, i < n → w.cell? ⟨g, i * 2, none⟩ = some (.string (S i))) (h4 : ∀ i, i < n → w.cell? ⟨g, i * 2 + 1, none⟩ = some (.iface 3 (.int .i64 i))) :
    Calls Try.prog 10 #[.slice (some ⟨g, 0, none⟩) n c, .string nm] w fun e w' => LookupEnd S nm n e ∧ Below w.heap.size w w' := by
  go_enter Try.func10, Try.ntmps10
  go_wp2_with fail
  refine (search11 w.heap.size (w.heap.size + 1) g n c S nm _ hn (by simp) (by simp) (fun i hi => by
    rw [World.cell?_alloc_past _ _ _ (by simp; omega), World.cell?_alloc_past _ _ _ hg]; exact h3 i hi)).mono ?_
  rintro e w' ⟨⟨r, hp, rfl⟩, q, rfl⟩
  by_cases hr : r < n
  · have c1 := h3 r hr
    have c2 := h4 r hr
    clear h3 h4
    have d1 : ((w.alloc (.cells #[.slice (some ⟨g, 0, none⟩) n c] 28)).alloc (.cells #[.string nm] 9)).cell? ⟨g, r * 2, none⟩ = some (.string (S r)) := by
      rw [World.cell?_alloc_past _ _ _ (by simp; omega), World.cell?_alloc_past _ _ _ hg]; exact c1
    have d2 : ((w.alloc (.cells #[.slice (some ⟨g, 0, none⟩) n c] 28)).alloc (.cells #[.string nm] 9)).cell? ⟨g, r * 2 + 1, none⟩ = some (.iface 3 (.int .i64 r)) := by
      rw [World.cell?_alloc_past _ _ _ (by simp; omega), World.cell?_alloc_past _ _ _ hg]; exact c2
    have hd : decide ((r : Int) < (n : Int)) = true := by simp; omega
    cases he : eqS (S r) nm with
    | true =>
      have he' : ((S r).toList == nm.toList) = true := he
      have HE : Hid (eqS (S r) nm = true) := he
      clear he c1 c2
      go_wp2
      go_quiet (fail)
      go_wp2
      go_ret
      exact ⟨⟨r, hp, Or.inl ⟨hr, HE.out, rfl⟩⟩, below_drewN (((Below.refl _ _).alloc (Nat.le_refl _) _).alloc (by simp) _) _⟩
    | false =>
      have he' : ((S r).toList == nm.toList) = false := he
      have HE : Hid (eqS (S r) nm = false) := he
      clear he c1 c2 d2
      go_wp2
      go_quiet (fail)
      go_wp2
      go_ret
      exact ⟨⟨r, hp, Or.inr ⟨fun _ => HE.out, rfl⟩⟩, below_two _ _ _ _ _⟩
  · have hd : decide ((r : Int) < (n : Int)) = false := by simp; omega
    clear h3 h4
    go_wp2
    go_quiet (fail)
    go_wp2
    go_ret
    exact ⟨⟨r, hp, Or.inr ⟨fun h => absurd h hr, rfl⟩⟩, below_two _ _ _ _ _⟩

/-! ### ZZLookupIndex -/
/-- How ZZLookupIndex ends: the parting index and whether its name is the name; else 0 and false. -/
def IndexEnd (S : Nat → ByteArray) (nm : ByteArray) (n : Nat) (e : Ending) : Prop :=
  ∃ r : Nat, Parts S nm n r ∧ ((r < n ∧ eqS (S r) nm = true ∧ e = .returned (.tuple #[.int .i64 r, .bool true])) ∨ ((r < n → eqS (S r) nm = false) ∧ e = .returned (.tuple #[.int .i64 0, .bool false])))

theorem info30 : (Try.prog.info? 30).map (fun i => (i.zero, i.size, i.bytes)) = some (some (.agg #[.string ⟨#[]⟩, .nilIface]), 2, 32) := by kernel_rfl
/-- The cells of a new []Member of n elements (behind a name: the walk need not look into them). -/
def newMembers (n : Nat) : Array Value := madeCells #[.string ⟨#[]⟩, .nilIface] (n * 2)
theorem size_newMembers (n : Nat) : (newMembers n).size = n * 2 := size_madeCells _ _
theorem make28 (n : Nat) (hn : n ≤ 65536) (w : World) :
    (Instr.makeSlice 28 (.int .i64 n) (.int .i64 n)).run Try.prog w = .ok (.slice (some ⟨w.heap.size, 0, none⟩) n n) (w.alloc (.cells (newMembers n) 30)) := by
  obtain ⟨i, hi, hz0, hz1, hz2⟩ := info_parts info30
  have hr := run_make (P := Try.prog) w 28 30 i _ Try.underlying28 hi hz0 .i64 .i64 n n (by omega) (Int.le_refl _) (by rw [hz2]; omega) (by omega)
  rw [hr, hz1]
  simp [newMembers, Value.cells]

/-- The members so far: block g, 2n cells, the first k members laid. -/
def MemRow (w : World) (g n k : Nat) (S : Nat → ByteArray) : Prop :=
  ∃ f : Nat → Value, w.rowIs g 30 (n * 2) f ∧ ∀ j, j < k → f (j * 2) = .string (S j) ∧ f (j * 2 + 1) = .iface 3 (.int .i64 j)
theorem memRow_new (w : World) (n : Nat) (S : Nat → ByteArray) : MemRow (w.alloc (.cells (newMembers n) 30)) w.heap.size n 0 S := by
  refine ⟨fun i => (newMembers n)[i]!, ?_, fun j hj => absurd hj (Nat.not_lt_zero _)⟩
  have := World.rowIs_alloc w (newMembers n) 30 (fun i => (newMembers n)[i]!) (fun i hi => by simp [hi])
  rwa [size_newMembers] at this
theorem memRow_step {w : World} {g n k : Nat} {S : Nat → ByteArray} (h : MemRow w g n k S) :
    MemRow ((w.setCell ⟨g, k * 2, none⟩ (.string (S k))).setCell ⟨g, k * 2 + 1, none⟩ (.iface 3 (.int .i64 k))) g n (k + 1) S := by
  obtain ⟨f, hr, hf⟩ := h
  refine ⟨_, (hr.set (k * 2) (.string (S k))).set (k * 2 + 1) (.iface 3 (.int .i64 k)), fun j hj => ?_⟩
  by_cases e : j = k
  · subst e
    exact ⟨by simp, by simp⟩
  · have := hf j (by omega)
    refine ⟨?_, ?_⟩
    · show (if j * 2 = k * 2 + 1 then _ else if j * 2 = k * 2 then _ else f (j * 2)) = _
      rw [if_neg (by omega), if_neg (by omega)]; exact this.1
    · show (if j * 2 + 1 = k * 2 + 1 then _ else if j * 2 + 1 = k * 2 then _ else f (j * 2 + 1)) = _
      rw [if_neg (by omega), if_neg (by omega)]; exact this.2
theorem memRow_cells {w : World} {g n k : Nat} {S : Nat → ByteArray} (h : MemRow w g n k S) (hk : k < n) :
    (∃ u v, w.cell? ⟨g, k * 2, none⟩ = some u ∧ w.cell? ⟨g, k * 2 + 1, none⟩ = some v) ∧ w.frozen? ⟨g, k * 2, none⟩ = false ∧ w.frozen? ⟨g, k * 2 + 1, none⟩ = false := by
  obtain ⟨f, hr, hf⟩ := h
  exact ⟨⟨_, _, hr.cell (by omega), hr.cell (by omega)⟩, hr.frozen _, hr.frozen _⟩

theorem assert_yes (v : Value) (w : World) : (Instr.typeAssert (.iface 3 v) 20 3 true).run Try.prog w = .ok (.tuple #[v, .bool true]) w := by kernel_rfl
theorem assert_no (w : World) : (Instr.typeAssert .nilIface 20 3 true).run Try.prog w = .ok (.tuple #[.int .i64 0, .bool false]) w := by kernel_rfl

set_option maxHeartbeats 400000 in
theorem index8_some (b off n c : Nat) (S : Nat → ByteArray) (nm : ByteArray) (w : World) (hn : n ≤ 65536) (hb : b < w.heap.size)
    (hc : ∀ i, i < n → w.cell? ⟨b, off + i, none⟩ = some (.string (S i))) :
    Calls Try.prog 8 #[.slice (some ⟨b, off, none⟩) n c, .string nm] w fun e w' => IndexEnd S nm n e ∧ Below w.heap.size w w' := by
  have hmk := make28 n hn
  go_enter Try.func8, Try.ntmps8
  go_wp2
  go_loopw [16] (fun i wr => ∃ k : Nat, k ≤ n ∧ i = .int .i64 k ∧ MemRow wr w.heap.size n k S ∧ Below w.heap.size w wr) (fun i _ => n - (intOf i).toNat)
  case atStart => exact ⟨0, Nat.zero_le _, rfl, memRow_new w n S, (Below.refl _ _).alloc (Nat.le_refl _) _⟩
  case round =>
    obtain ⟨k, hk, rfl, hrow, hbl⟩ := hrel
    have HR : Hid (MemRow wr w.heap.size n k S) := hrow
    have hgw : w.heap.size < wr.heap.size := by obtain ⟨f, hr, _⟩ := hrow; exact hr.lt
    by_cases hlt : k < n
    · obtain ⟨⟨u, v, m1, m2⟩, f1, f2⟩ := memRow_cells hrow hlt
      have hcell : wr.cell? ⟨b, off + k, none⟩ = some (.string (S k)) := (hbl.cell (by exact hb)).trans (hc k hlt)
      have HB : Hid (Below w.heap.size w wr) := hbl
      clear hrow hbl hc hmk
      go_wp2
      go_roundw
      case rel => exact ⟨k + 1, by omega, by go_num, memRow_step HR.out, (HB.out.setCell (Nat.le_refl _) _).setCell (Nat.le_refl _) _⟩
      case measure => simp [intOf]; omega
    · obtain rfl : k = n := by omega
      obtain ⟨f, hr, hf⟩ := hrow
      have h3 : ∀ i, i < k → wr.cell? ⟨w.heap.size, i * 2, none⟩ = some (.string (S i)) := fun i hi => by rw [hr.cell (by omega), (hf i hi).1]
      have h4 : ∀ i, i < k → wr.cell? ⟨w.heap.size, i * 2 + 1, none⟩ = some (.iface 3 (.int .i64 i)) := fun i hi => by rw [hr.cell (by omega), (hf i hi).2]
      have HL := fun c' => lookup10 w.heap.size k c' S nm wr hn hgw h3 h4
      have HB : Hid (Below w.heap.size w wr) := hbl
      clear h3 h4 hr hf hbl hc hmk HR
      have HH : Hid (∀ c', Calls Try.prog 10 #[.slice (some ⟨w.heap.size, 0, none⟩) k c', .string nm] wr fun e w' => LookupEnd S nm k e ∧ Below wr.heap.size wr w') := HL
      clear HL
      go_wp2_with fail
      refine (HH.out k).mono ?_
      rintro e w' ⟨⟨r, hp, hend⟩, hb2⟩
      have HP : Hid (Parts S nm k r) := hp
      have HB2 : Hid (Below w.heap.size w w') := HB.out.trans (hb2.mono (by omega))
      clear hp hb2 HB HH
      rcases hend with ⟨hr, he, rfl⟩ | ⟨hne, rfl⟩
      · have HE : Hid (eqS (S r) nm = true) := he
        clear he
        have ha := assert_yes
        go_wp2
        go_ret2
        exact ⟨⟨r, HP.out, Or.inl ⟨hr, HE.out, rfl⟩⟩, HB2.out⟩
      · have HE : Hid (r < k → eqS (S r) nm = false) := hne
        clear hne
        have ha := assert_no
        go_wp2
        go_ret2
        exact ⟨⟨r, HP.out, Or.inr ⟨HE.out, rfl⟩⟩, HB2.out⟩

set_option maxHeartbeats 400000 in
theorem index8_none (ao : Option Addr) (c : Nat) (S : Nat → ByteArray) (nm : ByteArray) (w : World) :
    Calls Try.prog 8 #[.slice ao 0 c, .string nm] w fun e w' => IndexEnd S nm 0 e ∧ Below w.heap.size w w' := by
  have hmk := make28 0 (by omega)
  have ha := assert_no
  have HL : Hid (∀ c', Calls Try.prog 10 #[.slice (some ⟨w.heap.size, 0, none⟩) 0 c', .string nm] (w.alloc (.cells (newMembers 0) 30)) fun e w' => LookupEnd S nm 0 e ∧ Below (w.alloc (.cells (newMembers 0) 30)).heap.size (w.alloc (.cells (newMembers 0) 30)) w') :=
    fun c' => lookup10 w.heap.size 0 c' S nm _ (by omega) (by simp) (fun i hi => absurd hi (by omega)) (fun i hi => absurd hi (by omega))
  simp only [Int.natCast_zero] at hmk
  go_enter Try.func8, Try.ntmps8
  go_wp2
  refine wp_loop_rounds 1 ?_
  rw [rounds_succ]
  go_wp2_with fail
  refine (HL.out 0).mono ?_
  rintro e w' ⟨⟨r, hp, hend⟩, hb2⟩
  have HP : Hid (Parts S nm 0 r) := hp
  have HB2 : Hid (Below w.heap.size w w') := ((Below.refl _ _).alloc (Nat.le_refl _) _).trans (hb2.mono (by simp))
  clear hp hb2 HL
  rcases hend with ⟨hr, he, rfl⟩ | ⟨hne, rfl⟩
  · omega
  · clear hne
    go_wp2
    go_ret2
    exact ⟨⟨r, HP.out, Or.inr ⟨fun h => absurd h (by omega), rfl⟩⟩, HB2.out⟩
end Go.Proofs.Qxb6609201a
