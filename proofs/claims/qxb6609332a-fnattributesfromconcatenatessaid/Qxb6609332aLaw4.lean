/-
  Seat b6609332a: the second law (function 4): the walk.
-/
import Derived.Test.Qxb6609332aPlain4
import Derived.Test.Qxb6609332aWalkA2
namespace Go.Proofs.Qxb6609332a
open Go.RowKit

/-- One more place behind an append: the row, and the step. -/
theorem push_any {B : Nat} {w3 wr w1 : World} {v3 y : Value} {L : List Pl} {p : Pl} {o : Obj} {g c n : Nat} (hn : L.length = n) (hS : Step w3 v3 wr y)
    (p1 : w1.ownsRow B 33 11 (.slice (some ⟨g, 0, none⟩) (n + 1) c) (n + 1) (L.flatMap Pl.cells ++ p.cells)) (r1 : (wr.alloc o).grownBy w1 y.ownBlock) (t1 : y.ownBlock = some g ∨ g = (wr.alloc o).heap.size) :
    Outs B w1 (.slice (some ⟨g, 0, none⟩) (n + 1) c) (L ++ [p]) ∧ Step w3 v3 w1 (.slice (some ⟨g, 0, none⟩) (n + 1) c) := by
  subst hn
  obtain ⟨h1, h2⟩ := outs_push (Step.refl wr y) p1 r1 t1
  exact ⟨h1, hS.trans h2⟩
theorem outs_len {B : Nat} {w : World} {y : Value} {L : List Pl} {n : Nat} (h : Outs B w y L) (hn : L.length = n) : w.ownsRow B 33 11 y n (L.flatMap Pl.cells) := by
  subst hn; exact h
theorem map_succ (S : Nat → Pl) (m : Nat) : (List.range (m + 1)).map S = (List.range m).map S ++ [S m] := by rw [List.range_succ, List.map_append]; rfl
/-- What a build leaves to be read of its root. -/
theorem built_root {w : World} {T : Nat → Pl} {n z : Nat} (h : Built w T n z) (hd : ∀ j, j < n → 0 ≤ (T j).depth) : ∃ ao c, w.cell? ⟨z, 0, none⟩ = some (.slice ao (rootsTo T n) c) := by
  obtain ⟨B, Ch, V, Z, Hd, os, st, hC, hA, rfl⟩ := h
  have hh := (hA.hdr 0 (.inl rfl)).2
  have hr := hA.rows 0
  have e : rootsTo T n = (Ch 0).length := by unfold rootsTo; rw [roots_of hC hd]
  rw [e]
  have hcell : w.cell? ⟨Z 0, 0, none⟩ = some (V 0) := by rw [cell_of_row w _ 0 _ _ _ hh]; rfl
  rw [hcell]
  rcases owns_form hr with ⟨ev, h0⟩ | ⟨g, c, ev⟩
  · exact ⟨none, 0, by rw [ev, h0]⟩
  · exact ⟨_, c, by rw [ev]⟩

set_option maxRecDepth 20000 in
set_option maxHeartbeats 8000000 in
/-- From the two lists checked on: true. -/
theorem law4 (ao ao' : Option Addr) (len cap len' cap' : Nat) (S S' : Nat → Pl) (w : World) (hm : len ≤ maxLen) (hm' : len' ≤ maxLen) (hc : PlsAt w ao len S) (hc' : PlsAt w ao' len' S') :
    Calls Try.prog 4 #[.slice ao len cap, .slice ao' len' cap'] w fun e w' => e = .returned (.bool true) ∧ Below w.heap.size w w' := by
  obtain ⟨i33, q0, q1, q2, q3⟩ := info_parts info33
  have HC : Hid (PlsAt w ao len S) := hc
  have HC' : Hid (PlsAt w ao' len' S') := hc'
  clear hc hc'
  go_enter Try.func4, Try.ntmps4
  go_wp2_with fail
  refine (bytes12 ao ao' len cap len' cap' S S' w hm hm' HC.out HC'.out).mono ?_
  rintro e w1 ⟨⟨r, rfl⟩, hw⟩
  obtain rfl := hw.symm
  cases r with
  | false =>
    go_wp2
    go_ret
    exact ⟨rfl, Below.refl _ _⟩
  | true =>
  go_wp2_with fail
  refine (count6 ao len cap S _ hm HC.out).mono ?_
  rintro e w1 ⟨⟨n, hn0, hn1, hn, rfl⟩, hw⟩
  obtain rfl := hw.symm
  go_wp2_with fail
  refine (count6 ao' len' cap' S' _ hm' HC'.out).mono ?_
  rintro e w1 ⟨⟨n', hn0', hn1', hn', rfl⟩, hw⟩
  obtain rfl := hw.symm
  go_wp2_with fail
  refine (addLen13 n n' w).mono ?_
  rintro e w1 ⟨rfl, hw⟩
  obtain rfl := hw.symm
  by_cases hnb : addLen n n' ≤ 1048576
  rotate_left
  · have hnb2 : 1048576 < addLen n n' := by omega
    clear hn hn'
    go_wp2
    go_ret
    exact ⟨rfl, Below.refl _ _⟩
  have hsum := addLen_le hnb
  have hlen := hn (by omega)
  have hlen' := hn' (by omega)
  have hnb2 : ¬ 1048576 < addLen n n' := by omega
  clear hn hn' hsum
  go_wp2_with fail
  refine (wf7 ao len cap S w hlen HC.out).mono ?_
  rintro e w1 ⟨⟨r, rfl, hr⟩, hb1⟩
  have HB1 : Hid (Below w.heap.size w w1) := hb1
  clear hb1
  cases r with
  | false =>
    clear hr
    go_wp2
    go_ret
    exact ⟨rfl, HB1.out⟩
  | true =>
  have HW : Hid ((wfTo S len).isSome = true) := hr rfl
  clear hr
  go_wp2_with fail
  refine (wf7 ao' len' cap' S' w1 hlen' (pls_below HC'.out HB1.out)).mono ?_
  rintro e w2 ⟨⟨r, rfl, hr⟩, hb2⟩
  have HB2 : Hid (Below w.heap.size w w2) := HB1.out.trans (hb2.mono HB1.out.size)
  clear hb2
  cases r with
  | false =>
    clear hr
    go_wp2
    go_ret
    exact ⟨rfl, HB2.out⟩
  | true =>
  have HW' : Hid ((wfTo S' len').isSome = true) := hr rfl
  clear hr HB1
  have HCp : Hid (PlsAt w2 ao len S) := pls_below HC.out HB2.out
  have HCq : Hid (PlsAt w2 ao' len' S') := pls_below HC'.out HB2.out
  clear HC HC' w1
  go_wp2_with (at_make; refine wpList_make_own _ rfl _ _ 22 rfl w2.heap.size 33 i33 _ 11 Try.underlying22 q0 q1 q2 .i64 .i64 _ (len + len') rfl rfl (by first | rfl | omega | (simp; done) | (push_cast; rfl)) (by rw [q3]; omega) (by unfold maxLen; omega) (Nat.le_refl _) ?_; intro w3 hown3 hgrow3)
  have HO3 : Hid (Outs w2.heap.size w3 (.slice (some ⟨w2.heap.size, 0, none⟩) 0 (len + len')) []) := hown3
  have HB3 : Hid (Below w2.heap.size w2 w3) := (Below.refl _ _).grown hgrow3 (Nat.le_refl _) (fun k e => by cases e)
  have hs3 : w2.heap.size ≤ w3.heap.size := hgrow3.size
  clear hown3 hgrow3
  go_loopw [5, 6] (fun y i wr => ∃ m : Nat, m ≤ len ∧ i = .int .i64 m ∧ Outs w2.heap.size wr y ((List.range m).map S) ∧ Step w3 (.slice (some ⟨w2.heap.size, 0, none⟩) 0 (len + len')) wr y) (fun _ i _ => len - (intOf i).toNat)
  case atStart => exact ⟨0, Nat.zero_le _, rfl, HO3.out, Step.refl _ _⟩
  case round =>
  obtain ⟨m, hml, rfl, hO, hS⟩ := hrel
  have hBr := hS.below HB3.out HO3.out hs3
  have hszr : w2.heap.size ≤ wr.heap.size := Nat.le_trans hs3 hS.grow.size
  by_cases hlt : m < len
  · rcases pls_below HCp.out hBr with h0 | ⟨b, off, rfl, hcc⟩
    · omega
    obtain ⟨a0, a1, a2, a3, a4, a5, a6, a7, a8, a9, a10⟩ := hcc m hlt
    have hO' := outs_len hO (n := m) (by simp)
    have HS : Hid (Step w3 (.slice (some ⟨w2.heap.size, 0, none⟩) 0 (len + len')) wr u5) := hS
    clear hcc hO hS hBr
    go_wp2_with (at_builtin; refine wpList_append_lies _ rfl (.tmp 46) (.tmp 51) 22 rfl w2.heap.size 33 i33 _ 11 112 Try.underlying22 q0 q1 q2 q3 rfl (by decide) _ m _ rfl (hO'.alloc _) ⟨_, 0, none⟩ 1 1 (S m).cells rfl rfl (World.news_of_block (heap_alloc_new _ _)) (by simp [Pl.cells, Value.oneCell']) (by decide) (by unfold maxLen; omega) (by omega) (by simp; omega) _ rfl ?_; intro g c w4 p1 r1 t1 k1; obtain ⟨ho1, hs1⟩ := push_any (p := S m) (by simp) HS.out p1 r1 t1; have HO1 : Hid (Outs w2.heap.size w4 (.slice (some ⟨g, 0, none⟩) (m + 1) c) ((List.range m).map S ++ [S m])) := ho1; have HS1 : Hid (Step w3 (.slice (some ⟨w2.heap.size, 0, none⟩) 0 (len + len')) w4 (.slice (some ⟨g, 0, none⟩) (m + 1) c)) := hs1; clear ho1 hs1 p1 r1 t1 k1)
    go_roundw
    case rel => exact ⟨m + 1, by omega, by go_num, by rw [map_succ]; exact HO1.out, HS1.out⟩
    case measure => simp [intOf]; omega
  obtain rfl : len = m := by omega
  have HO5 : Hid (Outs w2.heap.size wr u5 ((List.range len).map S)) := hO
  have HS5 : Hid (Step w3 (.slice (some ⟨w2.heap.size, 0, none⟩) 0 (len + len')) wr u5) := hS
  clear hO hS hBr hszr hml
  go_wp2_with fail
  go_loopw [5, 7] (fun y i wr => ∃ m : Nat, m ≤ len' ∧ i = .int .i64 m ∧ Outs w2.heap.size wr y ((List.range len).map S ++ (List.range m).map S') ∧ Step w3 (.slice (some ⟨w2.heap.size, 0, none⟩) 0 (len + len')) wr y) (fun _ i _ => len' - (intOf i).toNat)
  case atStart => exact ⟨0, Nat.zero_le _, rfl, by simpa using HO5.out, HS5.out⟩
  case round =>
  clear HO5 HS5
  obtain ⟨m, hml, rfl, hO, hS⟩ := hrel
  have hBr := hS.below HB3.out HO3.out hs3
  have hszr : w2.heap.size ≤ wr.heap.size := Nat.le_trans hs3 hS.grow.size
  by_cases hlt' : m < len'
  · rcases pls_below HCq.out hBr with h0 | ⟨b, off, rfl, hcc⟩
    · omega
    obtain ⟨a0, a1, a2, a3, a4, a5, a6, a7, a8, a9, a10⟩ := hcc m hlt'
    have hO' := outs_len hO (n := len + m) (by simp)
    have HS : Hid (Step w3 (.slice (some ⟨w2.heap.size, 0, none⟩) 0 (len + len')) wr u5) := hS
    clear hcc hO hS hBr
    go_wp2_with (at_builtin; refine wpList_append_lies _ rfl (.tmp 59) (.tmp 64) 22 rfl w2.heap.size 33 i33 _ 11 112 Try.underlying22 q0 q1 q2 q3 rfl (by decide) _ (len + m) _ rfl (hO'.alloc _) ⟨_, 0, none⟩ 1 1 (S' m).cells rfl rfl (World.news_of_block (heap_alloc_new _ _)) (by simp [Pl.cells, Value.oneCell']) (by decide) (by unfold maxLen; omega) (by omega) (by simp; omega) _ rfl ?_; intro g c w4 p1 r1 t1 k1; obtain ⟨ho1, hs1⟩ := push_any (p := S' m) (by simp) HS.out p1 r1 t1; have HO1 : Hid (Outs w2.heap.size w4 (.slice (some ⟨g, 0, none⟩) (len + m + 1) c) ((List.range len).map S ++ (List.range m).map S' ++ [S' m])) := ho1; have HS1 : Hid (Step w3 (.slice (some ⟨w2.heap.size, 0, none⟩) 0 (len + len')) w4 (.slice (some ⟨g, 0, none⟩) (len + m + 1) c)) := hs1; clear ho1 hs1 p1 r1 t1 k1)
    go_roundw
    case rel => exact ⟨m + 1, by omega, by go_num, by rw [map_succ, ← List.append_assoc]; exact HO1.out, HS1.out⟩
    case measure => simp [intOf]; omega
  obtain rfl : len' = m := by omega
  obtain ⟨T, hT⟩ : ∃ T, T = catPl S S' len := ⟨_, rfl⟩
  obtain ⟨N, hN⟩ : ∃ N, N = len + len' := ⟨_, rfl⟩
  have HM : Hid ((List.range N).map T = (List.range len).map S ++ (List.range len').map S') := by
    show _ = _
    rw [hN, hT]; exact cat_map S S' len len'
  have HWT : Hid ((wfTo T N).isSome = true) := by
    show _ = _
    rw [hN, hT]; exact wf_cat HW.out HW'.out
  have hNl : N ≤ 32768 := by omega
  obtain ⟨ao2, c2, hu5, hpl⟩ := outs_pls (S := T) (L := (List.range N).map T) (by rw [HM.out]; exact hO) (fun i hi => by
    have hi' : i < N := by simpa using hi
    simp [hi'])
  simp only [List.length_map, List.length_range] at hu5 hpl
  subst hu5
  obtain ⟨w6, e6⟩ : ∃ w6, w6 = wr := ⟨_, rfl⟩
  subst e6
  have HPL : Hid (PlsAt w6 ao2 N T) := hpl
  have HB6 : Hid (Below w2.heap.size w2 w6) := hBr
  clear hO hS hpl hBr hT hN hml HO3 HB3
  go_wp2_with fail
  go_loopw [8, 9] (fun r i wr => ∃ m : Nat, m ≤ N ∧ i = .int .i64 m ∧ r = .int .i64 (rootsTo T m) ∧ wr = w6) (fun _ i _ => N - (intOf i).toNat)
  case atStart => exact ⟨0, Nat.zero_le _, rfl, rfl, rfl⟩
  case round =>
  obtain ⟨m, hml, rfl, rfl, hwr⟩ := hrel
  obtain rfl := hwr.symm
  have hrl := rootsTo_le T m
  by_cases hltN : m < N
  · rcases HPL.out with h0 | ⟨b, off, rfl, hcc⟩
    · omega
    have a0 := (hcc m hltN).1
    clear hcc
    by_cases hz : (T m).depth = 0
    · rw [hz] at a0
      go_wp2_with fail
      go_roundw
      case rel => exact ⟨m + 1, by omega, by go_num, by rw [rootsTo_succ, if_pos hz]; go_num, trivial⟩
      case measure => simp [intOf]; omega
    · have hzb : ((T m).depth == 0) = false := by simp [hz]
      go_wp2_with fail
      go_roundw
      case rel => exact ⟨m + 1, by omega, by go_num, by rw [rootsTo_succ, if_neg hz], trivial⟩
      case measure => simp [intOf]; omega
  obtain rfl : N = m := by omega
  clear hrl hml
  go_wp2_with fail
  refine (toPlaces9 ao2 N c2 T w6 hNl HPL.out).mono ?_
  rintro e w7 ⟨rfl, hP, hb7⟩
  have HP : Hid (PRow w7 w6.heap.size N N T) := hP
  have hlt7 : w6.heap.size < w7.heap.size := by obtain ⟨f, hr, _⟩ := hP; exact hr.lt
  have HB7 : Hid (Below w2.heap.size w2 w7) := HB6.out.trans (hb7.mono HB6.out.size)
  clear hP hb7
  go_wp2_with fail
  refine (slice8 w7 w6.heap.size N T (by omega) HP.out hlt7 HWT.out).mono ?_
  rintro e w8 ⟨za, rfl, hbt, hb8⟩
  have HTa : Hid (Built w8 T N za) := hbt
  have HB8 : Hid (Below w2.heap.size w2 w8) := HB7.out.trans (hb8.mono HB7.out.size)
  clear hbt hb8 HP hlt7 HB7 HB6 HPL
  go_wp2_with fail
  refine (toPlaces9 ao len cap S w8 (by omega) (pls_below HCp.out HB8.out)).mono ?_
  rintro e w9 ⟨rfl, hP, hb9⟩
  have HP : Hid (PRow w9 w8.heap.size len len S) := hP
  have hlt9 : w8.heap.size < w9.heap.size := by obtain ⟨f, hr, _⟩ := hP; exact hr.lt
  have HB9 : Hid (Below w8.heap.size w8 w9) := hb9
  clear hP hb9
  go_wp2_with fail
  refine (slice8 w9 w8.heap.size len S (by omega) HP.out hlt9 HW.out).mono ?_
  rintro e w10 ⟨zx, rfl, hbt, hb10⟩
  have HTx : Hid (Built w10 S len zx) := hbt
  have HB10 : Hid (Below w8.heap.size w8 w10) := HB9.out.trans (hb10.mono HB9.out.size)
  clear hbt hb10 HP hlt9 HB9
  go_wp2_with fail
  refine (toPlaces9 ao' len' cap' S' w10 (by omega) (pls_below HCq.out (HB8.out.trans (HB10.out.mono HB8.out.size)))).mono ?_
  rintro e w11 ⟨rfl, hP, hb11⟩
  have HP : Hid (PRow w11 w10.heap.size len' len' S') := hP
  have hlt11 : w10.heap.size < w11.heap.size := by obtain ⟨f, hr, _⟩ := hP; exact hr.lt
  have HB11 : Hid (Below w10.heap.size w10 w11) := hb11
  clear hP hb11
  go_wp2_with fail
  refine (slice8 w11 w10.heap.size len' S' (by omega) HP.out hlt11 HW'.out).mono ?_
  rintro e w12 ⟨zy, rfl, hbt, hb12⟩
  have HTy : Hid (Built w12 S' len' zy) := hbt
  have HB12 : Hid (Below w10.heap.size w10 w12) := HB11.out.trans (hb12.mono HB11.out.size)
  clear hbt hb12 HP hlt11 HB11
  go_wp2_with fail
  obtain ⟨vX, hzx, hLWx⟩ := walk_built (HTx.out.below HB12.out) (by omega) HW.out
  refine (walk11 w12 zx vX _ hzx (by simp; omega) hLWx).mono ?_
  rintro e w13 ⟨vx, rfl, hox, hb13⟩
  have HOx : Hid (Outs w12.heap.size w13 vx ((List.range len).map S)) := hox
  have HB13 : Hid (Below w12.heap.size w12 w13) := hb13
  clear hox hb13 hzx hLWx
  go_wp2_with fail
  obtain ⟨vY, hzy, hLWy⟩ := walk_built (HTy.out.below HB13.out) (by omega) HW'.out
  refine (walk11 w13 zy vY _ hzy (by simp; omega) hLWy).mono ?_
  rintro e w14 ⟨vy, rfl, hoy, hb14⟩
  have HOy : Hid (Outs w13.heap.size w14 vy ((List.range len').map S')) := hoy
  have HB14 : Hid (Below w13.heap.size w13 w14) := hb14
  clear hoy hb14 hzy hLWy
  have HOx14 : Hid (Outs w12.heap.size w14 vx ((List.range len).map S)) := owns_keep HOx.out (fun b e => HB14.out.block b (HOx.out.lt b e).2)
  have hs13 : w12.heap.size ≤ w14.heap.size := Nat.le_trans HB13.out.size HB14.out.size
  have HB1214 : Hid (Below w12.heap.size w12 w14) := HB13.out.trans (HB14.out.mono HB13.out.size)
  obtain ⟨aoy, cy, hvy⟩ : ∃ aoy cy, vy = .slice aoy len' cy := by
    obtain ⟨a, c, e, _⟩ := outs_pls (S := S') HOy.out (fun i hi => by
      have hi' : i < len' := by simpa using hi
      simp [hi'])
    simp only [List.length_map, List.length_range] at e
    exact ⟨a, c, e⟩
  subst hvy
  go_wp2_with fail
  go_loopw [13, 15] (fun y i wr => ∃ m : Nat, m ≤ len' ∧ i = .int .i64 m ∧ Outs w12.heap.size wr y ((List.range len).map S ++ (List.range m).map S') ∧ Step w14 vx wr y) (fun _ i _ => len' - (intOf i).toNat)
  case atStart => exact ⟨0, Nat.zero_le _, rfl, by simpa using HOx14.out, Step.refl _ _⟩
  case round =>
  obtain ⟨m, hml, rfl, hO, hS⟩ := hrel
  have hszr : w12.heap.size ≤ wr.heap.size := Nat.le_trans hs13 hS.grow.size
  by_cases hlt4 : m < len'
  · have hyr : Outs w13.heap.size wr (.slice aoy len' cy) ((List.range len').map S') := owns_keep HOy.out (fun b e => hS.grow.block b (HOy.out.lt b e).2 (fun e' => by
      have h1 := (HOy.out.lt b e).1
      have h2 := (HOx.out.lt b e'.symm).2
      omega))
    obtain ⟨a, c, e, hpy⟩ := outs_pls (S := S') hyr (fun i hi => by
      have hi' : i < len' := by simpa using hi
      simp [hi'])
    simp only [List.length_map, List.length_range, Value.slice.injEq, true_and] at e hpy
    obtain ⟨rfl, rfl⟩ := e
    rcases hpy with h0 | ⟨b, off, rfl, hcc⟩
    · omega
    obtain ⟨a0, a1, a2, a3, a4, a5, a6, a7, a8, a9, a10⟩ := hcc m hlt4
    have hO' := outs_len hO (n := len + m) (by simp)
    have HS : Hid (Step w14 vx wr u13) := hS
    clear hcc hO hS hyr
    go_wp2_with (at_builtin; refine wpList_append_lies _ rfl (.tmp 109) (.tmp 114) 22 rfl w12.heap.size 33 i33 _ 11 112 Try.underlying22 q0 q1 q2 q3 rfl (by decide) _ (len + m) _ rfl (hO'.alloc _) ⟨_, 0, none⟩ 1 1 (S' m).cells rfl rfl (World.news_of_block (heap_alloc_new _ _)) (by simp [Pl.cells, Value.oneCell']) (by decide) (by unfold maxLen; omega) (by omega) (by simp; omega) _ rfl ?_; intro g c w4 p1 r1 t1 k1; obtain ⟨ho1, hs1⟩ := push_any (p := S' m) (by simp) HS.out p1 r1 t1; have HO1 : Hid (Outs w12.heap.size w4 (.slice (some ⟨g, 0, none⟩) (len + m + 1) c) ((List.range len).map S ++ (List.range m).map S' ++ [S' m])) := ho1; have HS1 : Hid (Step w14 vx w4 (.slice (some ⟨g, 0, none⟩) (len + m + 1) c)) := hs1; clear ho1 hs1 p1 r1 t1 k1)
    go_roundw
    case rel => exact ⟨m + 1, by omega, by go_num, by rw [map_succ, ← List.append_assoc]; exact HO1.out, HS1.out⟩
    case measure => simp [intOf]; omega
  obtain rfl : len' = m := by omega
  have hB1215 := hS.below HB1214.out HOx14.out hs13
  have hs8 := HB10.out.size
  have hs10 := HB12.out.size
  have HB815 : Hid (Below w8.heap.size w8 wr) := HB10.out.trans ((HB12.out.mono hs8).trans (hB1215.mono (by omega)))
  have HB15 : Hid (Below w.heap.size w wr) := HB2.out.trans ((HB8.out.mono HB2.out.size).trans (HB815.out.mono (by have := HB2.out.size; have := HB8.out.size; omega)))
  obtain ⟨aow, cw, hu13, hpw⟩ := outs_pls (S := T) (L := (List.range N).map T) (by rw [HM.out]; exact hO) (fun i hi => by
    have hi' : i < N := by simpa using hi
    simp [hi'])
  simp only [List.length_map, List.length_range] at hu13 hpw
  subst hu13
  obtain ⟨w15, e15⟩ : ∃ w15, w15 = wr := ⟨_, rfl⟩
  subst e15
  have HPW : Hid (PlsAt w15 aow N T) := hpw
  have HTa15 : Hid (Built w15 T N za) := HTa.out.below HB815.out
  obtain ⟨aoa, ca, hroot⟩ := built_root HTa15.out (fun j hj => (wf_depth HWT.out hj).1)
  clear hO hS hpw hB1215 hml
  go_wp2_with fail
  obtain ⟨vA, hza, hLWa⟩ := walk_built HTa15.out (by omega) HWT.out
  refine (walk11 w15 za vA _ hza (by simp; omega) hLWa).mono ?_
  rintro e w16 ⟨va, rfl, hoa, hb16⟩
  obtain ⟨aoz, cz, hva, hpz⟩ := outs_pls (S := T) hoa (fun i hi => by
    have hi' : i < N := by simpa using hi
    simp [hi'])
  simp only [List.length_map, List.length_range] at hva hpz
  subst hva
  have HPZ : Hid (PlsAt w16 aoz N T) := hpz
  have HPW16 : Hid (PlsAt w16 aow N T) := pls_below HPW.out hb16
  have HB16 : Hid (Below w.heap.size w w16) := HB15.out.trans (hb16.mono HB15.out.size)
  clear hpz hoa hb16 hza hLWa
  go_wp2_with fail
  refine (same10 aoz aow cz cw N T w16 (by unfold maxLen; omega) HPZ.out HPW16.out).mono ?_
  rintro e w17 ⟨rfl, q, rfl⟩
  go_wp2
  go_ret
  exact ⟨rfl, ⟨HB16.out.os, HB16.out.tape, HB16.out.output, HB16.out.size, HB16.out.block⟩⟩
end Go.Proofs.Qxb6609332a
