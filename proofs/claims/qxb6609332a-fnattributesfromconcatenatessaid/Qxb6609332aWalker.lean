/-
  Seat b6609332a: zzWalkOne (function 18), zzWalkList (16), zzWalkBlock (11) over an arena.
-/
import Derived.Test.Qxb6609332aArena
namespace Go.Proofs.Qxb6609332a
open Go.RowKit

/-- The slice vo holds the places outs, in rows of the call's own. -/
def Outs (B : Nat) (w : World) (vo : Value) (outs : List Pl) : Prop := w.ownsRow B 33 11 vo outs.length (outs.flatMap Pl.cells)

/-- From (w, vo) to (w', vo'): nothing that lay has turned but vo's own row; vo' lies in that row or in a new one. -/
structure Step (w : World) (vo : Value) (w' : World) (vo' : Value) : Prop where
  grow : w.grownBy w' vo.ownBlock
  at' : ∀ g, vo'.ownBlock = some g → vo.ownBlock = some g ∨ w.heap.size ≤ g
theorem Step.refl (w : World) (vo : Value) : Step w vo w vo := ⟨⟨rfl, rfl, rfl, Nat.le_refl _, fun _ _ _ => rfl⟩, fun _ h => .inl h⟩
theorem Step.trans {w w1 w2 : World} {v v1 v2 : Value} (h : Step w v w1 v1) (k : Step w1 v1 w2 v2) : Step w v w2 v2 := by
  refine ⟨⟨k.grow.os.trans h.grow.os, k.grow.tape.trans h.grow.tape, k.grow.output.trans h.grow.output, Nat.le_trans h.grow.size k.grow.size, fun b hb hne => ?_⟩, fun g hg => ?_⟩
  · refine (k.grow.block b (Nat.lt_of_lt_of_le hb h.grow.size) ?_).trans (h.grow.block b hb hne)
    intro e
    rcases h.at' b e.symm with e' | e'
    · exact hne e'.symm
    · omega
  · rcases k.at' g hg with e | e
    · exact h.at' g e
    · exact .inr (Nat.le_trans h.grow.size e)
theorem Step.alloc {w w1 : World} {v v1 : Value} (h : Step w v w1 v1) (o : Obj) : Step w v (w1.alloc o) v1 := h.trans ⟨World.grownBy_alloc w1 o _, fun _ e => .inl e⟩
theorem Step.block {w w1 : World} {v v1 : Value} (h : Step w v w1 v1) {b : Nat} {o : Obj} (hb : w.heap[b]? = some o) (hne : v.ownBlock ≠ some b) : w1.heap[b]? = some o :=
  (h.grow.block b (lt_of_heap hb) (fun e => hne e.symm)).trans hb
theorem Step.below {w0 w w1 : World} {v v1 : Value} {B : Nat} {outs : List Pl} (h : Step w v w1 v1) (hb : Below B w0 w) (ho : Outs B w v outs) (hB : B ≤ w.heap.size) : Below B w0 w1 :=
  hb.grown h.grow hB (fun k e => (ho.lt k e).1)

/-- The walk over a list hands on what came, and the list's places in the walk's order. -/
def LW (w0 : World) (v : Value) (d : Int) (e ih : Bool) (L : List Pl) : Prop :=
  ∀ (outs : List Pl) (vo : Value) (w : World), Below w0.heap.size w0 w → Outs w0.heap.size w vo outs → outs.length + L.length ≤ 40000 →
    Calls Try.prog 16 #[v, .int .i64 d, .bool e, .bool ih, vo] w fun en w' => ∃ vo', en = .returned vo' ∧ Outs w0.heap.size w' vo' (outs ++ L) ∧ Step w vo w' vo'

theorem info33 : (Try.prog.info? 33).map (fun i => (i.zero, i.size, i.bytes)) = some (some (.agg #[.int .i64 0, .bool false, .bool false, .bool false, .bool false, .string ⟨#[]⟩, .string ⟨#[]⟩, .string ⟨#[]⟩, .string ⟨#[]⟩, .string ⟨#[]⟩, .string ⟨#[]⟩]), 11, 112) := by kernel_rfl

/-- One more place at the end of out. -/
theorem outs_push {B : Nat} {w W w1 : World} {vo : Value} {outs : List Pl} {p : Pl} {o : Obj} {g c : Nat} (hs : Step w vo W vo)
    (p1 : w1.ownsRow B 33 11 (.slice (some ⟨g, 0, none⟩) (outs.length + 1) c) (outs.length + 1) (outs.flatMap Pl.cells ++ p.cells)) (r1 : (W.alloc o).grownBy w1 vo.ownBlock) (t1 : vo.ownBlock = some g ∨ g = (W.alloc o).heap.size) :
    Outs B w1 (.slice (some ⟨g, 0, none⟩) (outs.length + 1) c) (outs ++ [p]) ∧ Step w vo w1 (.slice (some ⟨g, 0, none⟩) (outs.length + 1) c) := by
  refine ⟨by unfold Outs; simpa using p1, (hs.alloc o).trans ⟨r1, fun g' e => ?_⟩⟩
  simp only [Value.ownBlock, Option.some.injEq] at e
  subst e
  rcases t1 with t1 | t1
  · exact .inl t1
  · exact .inr (by omega)

theorem Step.notBlock {w w1 : World} {v v1 : Value} (h : Step w v w1 v1) {b : Nat} (hne : v.ownBlock ≠ some b) (hlt : b < w.heap.size) : v1.ownBlock ≠ some b := by
  intro e
  rcases h.at' b e with e | e
  · exact hne e
  · omega
/-- All that is wanted behind the push. -/
theorem after_push {w0 w W w1 : World} {vo : Value} {outs : List Pl} {p : Pl} {o ob : Obj} {g c : Nat} (hs : Step w vo W vo) (hA : W.heap[w.heap.size]? = some ob) (hnA : vo.ownBlock ≠ some w.heap.size) (hb : Below w0.heap.size w0 w) (hv : Outs w0.heap.size w vo outs) (hsz : w0.heap.size ≤ w.heap.size)
    (p1 : w1.ownsRow w0.heap.size 33 11 (.slice (some ⟨g, 0, none⟩) (outs.length + 1) c) (outs.length + 1) (outs.flatMap Pl.cells ++ p.cells)) (r1 : (W.alloc o).grownBy w1 vo.ownBlock) (t1 : vo.ownBlock = some g ∨ g = (W.alloc o).heap.size) :
    Outs w0.heap.size w1 (.slice (some ⟨g, 0, none⟩) (outs.length + 1) c) (outs ++ [p]) ∧ Step w vo w1 (.slice (some ⟨g, 0, none⟩) (outs.length + 1) c) ∧ Below w0.heap.size w0 w1 ∧ w1.heap[w.heap.size]? = some ob ∧
      (Value.slice (some ⟨g, 0, none⟩) (outs.length + 1) c).ownBlock ≠ some w.heap.size := by
  obtain ⟨h1, h2⟩ := outs_push hs p1 r1 t1
  have hlt := lt_of_heap hA
  refine ⟨h1, h2, h2.below hb hv hsz, (r1.block w.heap.size (by simp; omega) (fun e => hnA e.symm)).trans ((Below.heap_alloc _ _ _ hlt).trans hA), ?_⟩
  intro e
  simp only [Value.ownBlock, Option.some.injEq] at e
  rcases t1 with t1 | t1
  · exact hnA (by rw [t1, e])
  · simp at t1; omega

set_option maxRecDepth 20000 in
set_option maxHeartbeats 4000000 in
theorem one_none_n (w0 : World) (p : Pl) (outs : List Pl) (vo : Value) (w : World) (hvo : Outs w0.heap.size w vo outs) (hb : Below w0.heap.size w0 w) (hd0 : 0 ≤ p.depth) (hd1 : p.depth ≤ 40000) (hhd : p.hd = ⟨#[]⟩) (v3 : Value) (L3 : List Pl) (I3 : LW w0 v3 (p.depth + 1) false false L3)
    (hl : outs.length + 1 + L3.length ≤ 40000) (hbk : p.block = false) (hhb : p.headBlock = false) :
    Calls Try.prog 18 #[.agg #[.string p.key, .string p.dt, .pointer none, .string p.kind, .string p.raw, .string p.text, .pointer none, v3], .int .i64 p.depth, .bool p.entry, .bool p.inHead, vo] w fun en w' =>
      ∃ vo', en = .returned vo' ∧ Outs w0.heap.size w' vo' (outs ++ p :: L3) ∧ Step w vo w' vo' := by
  obtain ⟨i33, q0, q1, q2, q3⟩ := info_parts info33
  have hsz := hb.size
  have HB : Hid (Below w0.heap.size w0 w) := hb
  have HV : Hid (Outs w0.heap.size w vo outs) := hvo
  have HE : Hid (p.cells = [.int .i64 p.depth, .bool p.entry, .bool p.inHead, .bool false, .bool false, .string ⟨#[]⟩, .string p.key, .string p.dt, .string p.kind, .string p.raw, .string p.text]) := by
    show _ = _
    simp [Pl.cells, hbk, hhb, hhd]
  clear hb hvo hbk hhb hhd
  go_enter Try.func18, Try.ntmps18
  go_upto_region 8 with fail
  obtain ⟨W, hW⟩ : ∃ W, (w.alloc (.cells #[.string p.key, .string p.dt, .pointer none, .string p.kind, .string p.raw, .string p.text, .pointer none, v3] 52)).alloc (.cells #[.int .i64 p.depth, .bool p.entry, .bool p.inHead, .bool false, .bool false, .string ⟨#[]⟩, .string p.key, .string p.dt, .string p.kind, .string p.raw, .string p.text] 33) = W := ⟨_, rfl⟩
  rw [hW]
  have hS0 : Step w vo W vo := by rw [← hW]; exact ((Step.refl w vo).alloc _).alloc _
  have hA : W.heap[w.heap.size]? = some (.cells #[.string p.key, .string p.dt, .pointer none, .string p.kind, .string p.raw, .string p.text, .pointer none, v3] 52 (0, 0)) := by
    rw [← hW, Below.heap_alloc _ _ _ (by simp)]; exact heap_alloc_new w _
  have hP : W.heap[w.heap.size + 1]? = some (.cells #[.int .i64 p.depth, .bool p.entry, .bool p.inHead, .bool false, .bool false, .string ⟨#[]⟩, .string p.key, .string p.dt, .string p.kind, .string p.raw, .string p.text] 33 (0, 0)) := by
    rw [← hW]; have := heap_alloc_new (w.alloc (.cells #[.string p.key, .string p.dt, .pointer none, .string p.kind, .string p.raw, .string p.text, .pointer none, v3] 52)) (.cells #[.int .i64 p.depth, .bool p.entry, .bool p.inHead, .bool false, .bool false, .string ⟨#[]⟩, .string p.key, .string p.dt, .string p.kind, .string p.raw, .string p.text] 33)
    rwa [World.size_alloc] at this
  have hsW : w.heap.size + 2 ≤ W.heap.size := by rw [← hW]; simp
  have hp0 := cell_of_row W (w.heap.size + 1) 0 _ _ _ hP
  have hp1 := cell_of_row W (w.heap.size + 1) 1 _ _ _ hP
  have hp2 := cell_of_row W (w.heap.size + 1) 2 _ _ _ hP
  have hp3 := cell_of_row W (w.heap.size + 1) 3 _ _ _ hP
  have hp4 := cell_of_row W (w.heap.size + 1) 4 _ _ _ hP
  have hp5 := cell_of_row W (w.heap.size + 1) 5 _ _ _ hP
  have hp6 := cell_of_row W (w.heap.size + 1) 6 _ _ _ hP
  have hp7 := cell_of_row W (w.heap.size + 1) 7 _ _ _ hP
  have hp8 := cell_of_row W (w.heap.size + 1) 8 _ _ _ hP
  have hp9 := cell_of_row W (w.heap.size + 1) 9 _ _ _ hP
  have hp10 := cell_of_row W (w.heap.size + 1) 10 _ _ _ hP
  simp only [List.getElem?_toArray, List.getElem?_cons_succ, List.getElem?_cons_zero] at hp0 hp1 hp2 hp3 hp4 hp5 hp6 hp7 hp8 hp9 hp10
  have hvW : W.ownsRow w0.heap.size 33 11 vo outs.length (outs.flatMap Pl.cells) := by rw [← hW]; exact (HV.out.alloc _).alloc _
  have hnA : vo.ownBlock ≠ some w.heap.size := fun e => by have := (HV.out.lt _ e).2; omega
  have HA : Hid (W.heap[w.heap.size]? = some (.cells #[.string p.key, .string p.dt, .pointer none, .string p.kind, .string p.raw, .string p.text, .pointer none, v3] 52 (0, 0))) := hA
  have HS0 : Hid (Step w vo W vo) := hS0
  clear hW hA hS0 hP
  go_wp2_with (first
    | (at_builtin; refine wpList_append_lies _ rfl (.tmp 61) (.tmp 63) 22 rfl w0.heap.size 33 i33 _ 11 112 Try.underlying22 q0 q1 q2 q3 rfl (by decide) vo outs.length _ rfl (hvW.alloc _) ⟨_, 0, none⟩ 1 1 [.int .i64 p.depth, .bool p.entry, .bool p.inHead, .bool false, .bool false, .string ⟨#[]⟩, .string p.key, .string p.dt, .string p.kind, .string p.raw, .string p.text] rfl rfl (World.news_of_block (heap_alloc_new _ _)) (by simp [Value.oneCell']) (by decide) (by unfold maxLen; omega) (by omega) (by simp; omega) _ rfl ?_; intro g c w1 p1 r1 t1 k1; rw [← HE.out] at p1; obtain ⟨ho1, hs1, hb1, hA1, hnA1⟩ := after_push HS0.out HA.out hnA HB.out HV.out hsz p1 r1 t1; have HA1 : Hid (w1.heap[w.heap.size]? = some (.cells #[.string p.key, .string p.dt, .pointer none, .string p.kind, .string p.raw, .string p.text, .pointer none, v3] 52 (0, 0))) := hA1; have hB1 : Hid (Below w0.heap.size w0 w1) := hb1; have e2_1 := cell_of_row w1 w.heap.size 2 _ _ _ hA1; have e7_1 := cell_of_row w1 w.heap.size 7 _ _ _ hA1; simp only [List.getElem?_toArray, List.getElem?_cons_succ, List.getElem?_cons_zero] at e2_1 e7_1; clear hA1 hb1; have HO1 : Hid (Outs w0.heap.size w1 (.slice (some ⟨g, 0, none⟩) (outs.length + 1) c) (outs ++ [p])) := ho1; have HT1 : Hid (Step w vo w1 (.slice (some ⟨g, 0, none⟩) (outs.length + 1) c)) := hs1; clear ho1 hs1 p1 r1 t1))
  refine (I3 (outs ++ [p]) (.slice (some ⟨g, 0, none⟩) (outs.length + 1) c) w1 hB1.out HO1.out (by simp; omega)).mono ?_
  rintro en w2 ⟨y2, rfl, ho2, hs2⟩
  have HO2 : Hid (Outs w0.heap.size w2 y2 (outs ++ [p] ++ L3)) := ho2
  have HT2 : Hid (Step w vo w2 y2) := HT1.out.trans hs2
  clear ho2 hs2
  go_wp2_with fail
  go_ret
  exact ⟨y2, rfl, by simpa using HO2.out, HT2.out⟩

set_option maxRecDepth 20000 in
set_option maxHeartbeats 4000000 in
theorem one_none_b (w0 : World) (p : Pl) (outs : List Pl) (vo : Value) (w : World) (hvo : Outs w0.heap.size w vo outs) (hb : Below w0.heap.size w0 w) (hd0 : 0 ≤ p.depth) (hd1 : p.depth ≤ 40000) (hhd : p.hd = ⟨#[]⟩) (z2 : Nat) (v2 : Value) (L2 : List Pl) (H2 : w0.heap[z2]? = some (.cells #[v2] 36 (0, 0))) (I2 : LW w0 v2 (p.depth + 1) true false L2) (v3 : Value) (L3 : List Pl) (I3 : LW w0 v3 (p.depth + 1) false false L3)
    (hl : outs.length + 1 + L2.length + L3.length ≤ 40000) (hbk : p.block = true) (hhb : p.headBlock = false) :
    Calls Try.prog 18 #[.agg #[.string p.key, .string p.dt, .pointer (some ⟨z2, 0, none⟩), .string p.kind, .string p.raw, .string p.text, .pointer none, v3], .int .i64 p.depth, .bool p.entry, .bool p.inHead, vo] w fun en w' =>
      ∃ vo', en = .returned vo' ∧ Outs w0.heap.size w' vo' (outs ++ p :: (L2 ++ L3)) ∧ Step w vo w' vo' := by
  obtain ⟨i33, q0, q1, q2, q3⟩ := info_parts info33
  have hsz := hb.size
  have HB : Hid (Below w0.heap.size w0 w) := hb
  have HV : Hid (Outs w0.heap.size w vo outs) := hvo
  have HE : Hid (p.cells = [.int .i64 p.depth, .bool p.entry, .bool p.inHead, .bool true, .bool false, .string ⟨#[]⟩, .string p.key, .string p.dt, .string p.kind, .string p.raw, .string p.text]) := by
    show _ = _
    simp [Pl.cells, hbk, hhb, hhd]
  have HH2 : Hid (w0.heap[z2]? = some (.cells #[v2] 36 (0, 0))) := H2
  clear hb hvo hbk hhb hhd H2
  go_enter Try.func18, Try.ntmps18
  go_upto_region 8 with fail
  obtain ⟨W, hW⟩ : ∃ W, (w.alloc (.cells #[.string p.key, .string p.dt, .pointer (some ⟨z2, 0, none⟩), .string p.kind, .string p.raw, .string p.text, .pointer none, v3] 52)).alloc (.cells #[.int .i64 p.depth, .bool p.entry, .bool p.inHead, .bool true, .bool false, .string ⟨#[]⟩, .string p.key, .string p.dt, .string p.kind, .string p.raw, .string p.text] 33) = W := ⟨_, rfl⟩
  rw [hW]
  have hS0 : Step w vo W vo := by rw [← hW]; exact ((Step.refl w vo).alloc _).alloc _
  have hA : W.heap[w.heap.size]? = some (.cells #[.string p.key, .string p.dt, .pointer (some ⟨z2, 0, none⟩), .string p.kind, .string p.raw, .string p.text, .pointer none, v3] 52 (0, 0)) := by
    rw [← hW, Below.heap_alloc _ _ _ (by simp)]; exact heap_alloc_new w _
  have hP : W.heap[w.heap.size + 1]? = some (.cells #[.int .i64 p.depth, .bool p.entry, .bool p.inHead, .bool true, .bool false, .string ⟨#[]⟩, .string p.key, .string p.dt, .string p.kind, .string p.raw, .string p.text] 33 (0, 0)) := by
    rw [← hW]; have := heap_alloc_new (w.alloc (.cells #[.string p.key, .string p.dt, .pointer (some ⟨z2, 0, none⟩), .string p.kind, .string p.raw, .string p.text, .pointer none, v3] 52)) (.cells #[.int .i64 p.depth, .bool p.entry, .bool p.inHead, .bool true, .bool false, .string ⟨#[]⟩, .string p.key, .string p.dt, .string p.kind, .string p.raw, .string p.text] 33)
    rwa [World.size_alloc] at this
  have hsW : w.heap.size + 2 ≤ W.heap.size := by rw [← hW]; simp
  have hp0 := cell_of_row W (w.heap.size + 1) 0 _ _ _ hP
  have hp1 := cell_of_row W (w.heap.size + 1) 1 _ _ _ hP
  have hp2 := cell_of_row W (w.heap.size + 1) 2 _ _ _ hP
  have hp3 := cell_of_row W (w.heap.size + 1) 3 _ _ _ hP
  have hp4 := cell_of_row W (w.heap.size + 1) 4 _ _ _ hP
  have hp5 := cell_of_row W (w.heap.size + 1) 5 _ _ _ hP
  have hp6 := cell_of_row W (w.heap.size + 1) 6 _ _ _ hP
  have hp7 := cell_of_row W (w.heap.size + 1) 7 _ _ _ hP
  have hp8 := cell_of_row W (w.heap.size + 1) 8 _ _ _ hP
  have hp9 := cell_of_row W (w.heap.size + 1) 9 _ _ _ hP
  have hp10 := cell_of_row W (w.heap.size + 1) 10 _ _ _ hP
  simp only [List.getElem?_toArray, List.getElem?_cons_succ, List.getElem?_cons_zero] at hp0 hp1 hp2 hp3 hp4 hp5 hp6 hp7 hp8 hp9 hp10
  have hvW : W.ownsRow w0.heap.size 33 11 vo outs.length (outs.flatMap Pl.cells) := by rw [← hW]; exact (HV.out.alloc _).alloc _
  have hnA : vo.ownBlock ≠ some w.heap.size := fun e => by have := (HV.out.lt _ e).2; omega
  have HA : Hid (W.heap[w.heap.size]? = some (.cells #[.string p.key, .string p.dt, .pointer (some ⟨z2, 0, none⟩), .string p.kind, .string p.raw, .string p.text, .pointer none, v3] 52 (0, 0))) := hA
  have HS0 : Hid (Step w vo W vo) := hS0
  clear hW hA hS0 hP
  go_wp2_with (first
    | (at_builtin; refine wpList_append_lies _ rfl (.tmp 61) (.tmp 63) 22 rfl w0.heap.size 33 i33 _ 11 112 Try.underlying22 q0 q1 q2 q3 rfl (by decide) vo outs.length _ rfl (hvW.alloc _) ⟨_, 0, none⟩ 1 1 [.int .i64 p.depth, .bool p.entry, .bool p.inHead, .bool true, .bool false, .string ⟨#[]⟩, .string p.key, .string p.dt, .string p.kind, .string p.raw, .string p.text] rfl rfl (World.news_of_block (heap_alloc_new _ _)) (by simp [Value.oneCell']) (by decide) (by unfold maxLen; omega) (by omega) (by simp; omega) _ rfl ?_; intro g c w1 p1 r1 t1 k1; rw [← HE.out] at p1; obtain ⟨ho1, hs1, hb1, hA1, hnA1⟩ := after_push HS0.out HA.out hnA HB.out HV.out hsz p1 r1 t1; have HA1 : Hid (w1.heap[w.heap.size]? = some (.cells #[.string p.key, .string p.dt, .pointer (some ⟨z2, 0, none⟩), .string p.kind, .string p.raw, .string p.text, .pointer none, v3] 52 (0, 0))) := hA1; have hB1 : Hid (Below w0.heap.size w0 w1) := hb1; have e2_1 := cell_of_row w1 w.heap.size 2 _ _ _ hA1; have e7_1 := cell_of_row w1 w.heap.size 7 _ _ _ hA1; simp only [List.getElem?_toArray, List.getElem?_cons_succ, List.getElem?_cons_zero] at e2_1 e7_1; have z2_1 := cell_of_row w1 z2 0 _ _ _ ((hb1.block z2 (lt_of_heap HH2.out)).trans HH2.out); simp only [List.getElem?_toArray, List.getElem?_cons_zero] at z2_1; clear hA1 hb1; have HO1 : Hid (Outs w0.heap.size w1 (.slice (some ⟨g, 0, none⟩) (outs.length + 1) c) (outs ++ [p])) := ho1; have HT1 : Hid (Step w vo w1 (.slice (some ⟨g, 0, none⟩) (outs.length + 1) c)) := hs1; clear ho1 hs1 p1 r1 t1))
  refine (I2 (outs ++ [p]) (.slice (some ⟨g, 0, none⟩) (outs.length + 1) c) w1 hB1.out HO1.out (by simp; omega)).mono ?_
  rintro en w2 ⟨y2, rfl, ho2, hs2⟩
  have HO2 : Hid (Outs w0.heap.size w2 y2 (outs ++ [p] ++ L2)) := ho2
  have HT2 : Hid (Step w vo w2 y2) := HT1.out.trans hs2
  have hb2 := hs2.below hB1.out HO1.out hB1.out.size
  have hA2 := hs2.block HA1.out hnA1
  have hnA2 := hs2.notBlock hnA1 (lt_of_heap HA1.out)
  have HA2 : Hid (w2.heap[w.heap.size]? = some (.cells #[.string p.key, .string p.dt, .pointer (some ⟨z2, 0, none⟩), .string p.kind, .string p.raw, .string p.text, .pointer none, v3] 52 (0, 0))) := hA2
  have hB2 : Hid (Below w0.heap.size w0 w2) := hb2
  have e2_2 := cell_of_row w2 w.heap.size 2 _ _ _ hA2
  have e7_2 := cell_of_row w2 w.heap.size 7 _ _ _ hA2
  simp only [List.getElem?_toArray, List.getElem?_cons_succ, List.getElem?_cons_zero] at e2_2 e7_2
  have z2_2 := cell_of_row w2 z2 0 _ _ _ ((hb2.block z2 (lt_of_heap HH2.out)).trans HH2.out)
  simp only [List.getElem?_toArray, List.getElem?_cons_zero] at z2_2
  clear hA2 hb2 ho2 hs2
  go_wp2_with fail
  refine (I3 (outs ++ [p] ++ L2) y2 w2 hB2.out HO2.out (by simp; omega)).mono ?_
  rintro en w3 ⟨y3, rfl, ho3, hs3⟩
  have HO3 : Hid (Outs w0.heap.size w3 y3 (outs ++ [p] ++ L2 ++ L3)) := ho3
  have HT3 : Hid (Step w vo w3 y3) := HT2.out.trans hs3
  clear ho3 hs3
  go_wp2_with fail
  go_ret
  exact ⟨y3, rfl, by simpa using HO3.out, HT3.out⟩

set_option maxRecDepth 20000 in
set_option maxHeartbeats 4000000 in
theorem one_dt_n (w0 : World) (p : Pl) (outs : List Pl) (vo : Value) (w : World) (hvo : Outs w0.heap.size w vo outs) (hb : Below w0.heap.size w0 w) (hd0 : 0 ≤ p.depth) (hd1 : p.depth ≤ 40000) (hn : Nat) (Hh : w0.heap[hn]? = some (.cells #[.string p.hd, .pointer none] 54 (0, 0))) (hne : p.hd.toList.isEmpty = false) (v3 : Value) (L3 : List Pl) (I3 : LW w0 v3 (p.depth + 1) false false L3)
    (hl : outs.length + 1 + L3.length ≤ 40000) (hbk : p.block = false) (hhb : p.headBlock = false) :
    Calls Try.prog 18 #[.agg #[.string p.key, .string p.dt, .pointer none, .string p.kind, .string p.raw, .string p.text, .pointer (some ⟨hn, 0, none⟩), v3], .int .i64 p.depth, .bool p.entry, .bool p.inHead, vo] w fun en w' =>
      ∃ vo', en = .returned vo' ∧ Outs w0.heap.size w' vo' (outs ++ p :: L3) ∧ Step w vo w' vo' := by
  obtain ⟨i33, q0, q1, q2, q3⟩ := info_parts info33
  have hsz := hb.size
  have HB : Hid (Below w0.heap.size w0 w) := hb
  have HV : Hid (Outs w0.heap.size w vo outs) := hvo
  have HE : Hid (p.cells = [.int .i64 p.depth, .bool p.entry, .bool p.inHead, .bool false, .bool false, .string p.hd, .string p.key, .string p.dt, .string p.kind, .string p.raw, .string p.text]) := by
    show _ = _
    simp [Pl.cells, hbk, hhb]
  have HH : Hid (w0.heap[hn]? = some (.cells #[.string p.hd, .pointer none] 54 (0, 0))) := Hh
  have hc0 : w.cell? ⟨hn, 0, none⟩ = some (.string p.hd) := (hb.cell (by exact lt_of_heap Hh)).trans (cell_of_row w0 hn 0 _ _ _ Hh)
  have hc1 : w.cell? ⟨hn, 1, none⟩ = some (.pointer none) := (hb.cell (by exact lt_of_heap Hh)).trans (cell_of_row w0 hn 1 _ _ _ Hh)
  have hnlt : hn < w.heap.size := by have := lt_of_heap Hh; omega
  clear hb hvo hbk hhb Hh
  go_enter Try.func18, Try.ntmps18
  go_upto_region 8 with fail
  obtain ⟨W, hW⟩ : ∃ W, (w.alloc (.cells #[.string p.key, .string p.dt, .pointer none, .string p.kind, .string p.raw, .string p.text, .pointer (some ⟨hn, 0, none⟩), v3] 52)).alloc (.cells #[.int .i64 p.depth, .bool p.entry, .bool p.inHead, .bool false, .bool false, .string p.hd, .string p.key, .string p.dt, .string p.kind, .string p.raw, .string p.text] 33) = W := ⟨_, rfl⟩
  rw [hW]
  have hS0 : Step w vo W vo := by rw [← hW]; exact ((Step.refl w vo).alloc _).alloc _
  have hA : W.heap[w.heap.size]? = some (.cells #[.string p.key, .string p.dt, .pointer none, .string p.kind, .string p.raw, .string p.text, .pointer (some ⟨hn, 0, none⟩), v3] 52 (0, 0)) := by
    rw [← hW, Below.heap_alloc _ _ _ (by simp)]; exact heap_alloc_new w _
  have hP : W.heap[w.heap.size + 1]? = some (.cells #[.int .i64 p.depth, .bool p.entry, .bool p.inHead, .bool false, .bool false, .string p.hd, .string p.key, .string p.dt, .string p.kind, .string p.raw, .string p.text] 33 (0, 0)) := by
    rw [← hW]; have := heap_alloc_new (w.alloc (.cells #[.string p.key, .string p.dt, .pointer none, .string p.kind, .string p.raw, .string p.text, .pointer (some ⟨hn, 0, none⟩), v3] 52)) (.cells #[.int .i64 p.depth, .bool p.entry, .bool p.inHead, .bool false, .bool false, .string p.hd, .string p.key, .string p.dt, .string p.kind, .string p.raw, .string p.text] 33)
    rwa [World.size_alloc] at this
  have hsW : w.heap.size + 2 ≤ W.heap.size := by rw [← hW]; simp
  have hp0 := cell_of_row W (w.heap.size + 1) 0 _ _ _ hP
  have hp1 := cell_of_row W (w.heap.size + 1) 1 _ _ _ hP
  have hp2 := cell_of_row W (w.heap.size + 1) 2 _ _ _ hP
  have hp3 := cell_of_row W (w.heap.size + 1) 3 _ _ _ hP
  have hp4 := cell_of_row W (w.heap.size + 1) 4 _ _ _ hP
  have hp5 := cell_of_row W (w.heap.size + 1) 5 _ _ _ hP
  have hp6 := cell_of_row W (w.heap.size + 1) 6 _ _ _ hP
  have hp7 := cell_of_row W (w.heap.size + 1) 7 _ _ _ hP
  have hp8 := cell_of_row W (w.heap.size + 1) 8 _ _ _ hP
  have hp9 := cell_of_row W (w.heap.size + 1) 9 _ _ _ hP
  have hp10 := cell_of_row W (w.heap.size + 1) 10 _ _ _ hP
  simp only [List.getElem?_toArray, List.getElem?_cons_succ, List.getElem?_cons_zero] at hp0 hp1 hp2 hp3 hp4 hp5 hp6 hp7 hp8 hp9 hp10
  have hvW : W.ownsRow w0.heap.size 33 11 vo outs.length (outs.flatMap Pl.cells) := by rw [← hW]; exact (HV.out.alloc _).alloc _
  have hnA : vo.ownBlock ≠ some w.heap.size := fun e => by have := (HV.out.lt _ e).2; omega
  have HA : Hid (W.heap[w.heap.size]? = some (.cells #[.string p.key, .string p.dt, .pointer none, .string p.kind, .string p.raw, .string p.text, .pointer (some ⟨hn, 0, none⟩), v3] 52 (0, 0))) := hA
  have HS0 : Hid (Step w vo W vo) := hS0
  clear hW hA hS0 hP
  go_wp2_with (first
    | (at_builtin; refine wpList_append_lies _ rfl (.tmp 61) (.tmp 63) 22 rfl w0.heap.size 33 i33 _ 11 112 Try.underlying22 q0 q1 q2 q3 rfl (by decide) vo outs.length _ rfl (hvW.alloc _) ⟨_, 0, none⟩ 1 1 [.int .i64 p.depth, .bool p.entry, .bool p.inHead, .bool false, .bool false, .string p.hd, .string p.key, .string p.dt, .string p.kind, .string p.raw, .string p.text] rfl rfl (World.news_of_block (heap_alloc_new _ _)) (by simp [Value.oneCell']) (by decide) (by unfold maxLen; omega) (by omega) (by simp; omega) _ rfl ?_; intro g c w1 p1 r1 t1 k1; rw [← HE.out] at p1; obtain ⟨ho1, hs1, hb1, hA1, hnA1⟩ := after_push HS0.out HA.out hnA HB.out HV.out hsz p1 r1 t1; have HA1 : Hid (w1.heap[w.heap.size]? = some (.cells #[.string p.key, .string p.dt, .pointer none, .string p.kind, .string p.raw, .string p.text, .pointer (some ⟨hn, 0, none⟩), v3] 52 (0, 0))) := hA1; have hB1 : Hid (Below w0.heap.size w0 w1) := hb1; have e2_1 := cell_of_row w1 w.heap.size 2 _ _ _ hA1; have e7_1 := cell_of_row w1 w.heap.size 7 _ _ _ hA1; simp only [List.getElem?_toArray, List.getElem?_cons_succ, List.getElem?_cons_zero] at e2_1 e7_1; have n1_1 := cell_of_row w1 hn 1 _ _ _ ((hb1.block hn (lt_of_heap HH.out)).trans HH.out); simp only [List.getElem?_toArray, List.getElem?_cons_succ, List.getElem?_cons_zero] at n1_1; clear hA1 hb1; have HO1 : Hid (Outs w0.heap.size w1 (.slice (some ⟨g, 0, none⟩) (outs.length + 1) c) (outs ++ [p])) := ho1; have HT1 : Hid (Step w vo w1 (.slice (some ⟨g, 0, none⟩) (outs.length + 1) c)) := hs1; clear ho1 hs1 p1 r1 t1))
  refine (I3 (outs ++ [p]) (.slice (some ⟨g, 0, none⟩) (outs.length + 1) c) w1 hB1.out HO1.out (by simp; omega)).mono ?_
  rintro en w2 ⟨y2, rfl, ho2, hs2⟩
  have HO2 : Hid (Outs w0.heap.size w2 y2 (outs ++ [p] ++ L3)) := ho2
  have HT2 : Hid (Step w vo w2 y2) := HT1.out.trans hs2
  clear ho2 hs2
  go_wp2_with fail
  go_ret
  exact ⟨y2, rfl, by simpa using HO2.out, HT2.out⟩

set_option maxRecDepth 20000 in
set_option maxHeartbeats 4000000 in
theorem one_dt_b (w0 : World) (p : Pl) (outs : List Pl) (vo : Value) (w : World) (hvo : Outs w0.heap.size w vo outs) (hb : Below w0.heap.size w0 w) (hd0 : 0 ≤ p.depth) (hd1 : p.depth ≤ 40000) (hn : Nat) (Hh : w0.heap[hn]? = some (.cells #[.string p.hd, .pointer none] 54 (0, 0))) (hne : p.hd.toList.isEmpty = false) (z2 : Nat) (v2 : Value) (L2 : List Pl) (H2 : w0.heap[z2]? = some (.cells #[v2] 36 (0, 0))) (I2 : LW w0 v2 (p.depth + 1) true false L2) (v3 : Value) (L3 : List Pl) (I3 : LW w0 v3 (p.depth + 1) false false L3)
    (hl : outs.length + 1 + L2.length + L3.length ≤ 40000) (hbk : p.block = true) (hhb : p.headBlock = false) :
    Calls Try.prog 18 #[.agg #[.string p.key, .string p.dt, .pointer (some ⟨z2, 0, none⟩), .string p.kind, .string p.raw, .string p.text, .pointer (some ⟨hn, 0, none⟩), v3], .int .i64 p.depth, .bool p.entry, .bool p.inHead, vo] w fun en w' =>
      ∃ vo', en = .returned vo' ∧ Outs w0.heap.size w' vo' (outs ++ p :: (L2 ++ L3)) ∧ Step w vo w' vo' := by
  obtain ⟨i33, q0, q1, q2, q3⟩ := info_parts info33
  have hsz := hb.size
  have HB : Hid (Below w0.heap.size w0 w) := hb
  have HV : Hid (Outs w0.heap.size w vo outs) := hvo
  have HE : Hid (p.cells = [.int .i64 p.depth, .bool p.entry, .bool p.inHead, .bool true, .bool false, .string p.hd, .string p.key, .string p.dt, .string p.kind, .string p.raw, .string p.text]) := by
    show _ = _
    simp [Pl.cells, hbk, hhb]
  have HH : Hid (w0.heap[hn]? = some (.cells #[.string p.hd, .pointer none] 54 (0, 0))) := Hh
  have hc0 : w.cell? ⟨hn, 0, none⟩ = some (.string p.hd) := (hb.cell (by exact lt_of_heap Hh)).trans (cell_of_row w0 hn 0 _ _ _ Hh)
  have hc1 : w.cell? ⟨hn, 1, none⟩ = some (.pointer none) := (hb.cell (by exact lt_of_heap Hh)).trans (cell_of_row w0 hn 1 _ _ _ Hh)
  have hnlt : hn < w.heap.size := by have := lt_of_heap Hh; omega
  have HH2 : Hid (w0.heap[z2]? = some (.cells #[v2] 36 (0, 0))) := H2
  clear hb hvo hbk hhb Hh H2
  go_enter Try.func18, Try.ntmps18
  go_upto_region 8 with fail
  obtain ⟨W, hW⟩ : ∃ W, (w.alloc (.cells #[.string p.key, .string p.dt, .pointer (some ⟨z2, 0, none⟩), .string p.kind, .string p.raw, .string p.text, .pointer (some ⟨hn, 0, none⟩), v3] 52)).alloc (.cells #[.int .i64 p.depth, .bool p.entry, .bool p.inHead, .bool true, .bool false, .string p.hd, .string p.key, .string p.dt, .string p.kind, .string p.raw, .string p.text] 33) = W := ⟨_, rfl⟩
  rw [hW]
  have hS0 : Step w vo W vo := by rw [← hW]; exact ((Step.refl w vo).alloc _).alloc _
  have hA : W.heap[w.heap.size]? = some (.cells #[.string p.key, .string p.dt, .pointer (some ⟨z2, 0, none⟩), .string p.kind, .string p.raw, .string p.text, .pointer (some ⟨hn, 0, none⟩), v3] 52 (0, 0)) := by
    rw [← hW, Below.heap_alloc _ _ _ (by simp)]; exact heap_alloc_new w _
  have hP : W.heap[w.heap.size + 1]? = some (.cells #[.int .i64 p.depth, .bool p.entry, .bool p.inHead, .bool true, .bool false, .string p.hd, .string p.key, .string p.dt, .string p.kind, .string p.raw, .string p.text] 33 (0, 0)) := by
    rw [← hW]; have := heap_alloc_new (w.alloc (.cells #[.string p.key, .string p.dt, .pointer (some ⟨z2, 0, none⟩), .string p.kind, .string p.raw, .string p.text, .pointer (some ⟨hn, 0, none⟩), v3] 52)) (.cells #[.int .i64 p.depth, .bool p.entry, .bool p.inHead, .bool true, .bool false, .string p.hd, .string p.key, .string p.dt, .string p.kind, .string p.raw, .string p.text] 33)
    rwa [World.size_alloc] at this
  have hsW : w.heap.size + 2 ≤ W.heap.size := by rw [← hW]; simp
  have hp0 := cell_of_row W (w.heap.size + 1) 0 _ _ _ hP
  have hp1 := cell_of_row W (w.heap.size + 1) 1 _ _ _ hP
  have hp2 := cell_of_row W (w.heap.size + 1) 2 _ _ _ hP
  have hp3 := cell_of_row W (w.heap.size + 1) 3 _ _ _ hP
  have hp4 := cell_of_row W (w.heap.size + 1) 4 _ _ _ hP
  have hp5 := cell_of_row W (w.heap.size + 1) 5 _ _ _ hP
  have hp6 := cell_of_row W (w.heap.size + 1) 6 _ _ _ hP
  have hp7 := cell_of_row W (w.heap.size + 1) 7 _ _ _ hP
  have hp8 := cell_of_row W (w.heap.size + 1) 8 _ _ _ hP
  have hp9 := cell_of_row W (w.heap.size + 1) 9 _ _ _ hP
  have hp10 := cell_of_row W (w.heap.size + 1) 10 _ _ _ hP
  simp only [List.getElem?_toArray, List.getElem?_cons_succ, List.getElem?_cons_zero] at hp0 hp1 hp2 hp3 hp4 hp5 hp6 hp7 hp8 hp9 hp10
  have hvW : W.ownsRow w0.heap.size 33 11 vo outs.length (outs.flatMap Pl.cells) := by rw [← hW]; exact (HV.out.alloc _).alloc _
  have hnA : vo.ownBlock ≠ some w.heap.size := fun e => by have := (HV.out.lt _ e).2; omega
  have HA : Hid (W.heap[w.heap.size]? = some (.cells #[.string p.key, .string p.dt, .pointer (some ⟨z2, 0, none⟩), .string p.kind, .string p.raw, .string p.text, .pointer (some ⟨hn, 0, none⟩), v3] 52 (0, 0))) := hA
  have HS0 : Hid (Step w vo W vo) := hS0
  clear hW hA hS0 hP
  go_wp2_with (first
    | (at_builtin; refine wpList_append_lies _ rfl (.tmp 61) (.tmp 63) 22 rfl w0.heap.size 33 i33 _ 11 112 Try.underlying22 q0 q1 q2 q3 rfl (by decide) vo outs.length _ rfl (hvW.alloc _) ⟨_, 0, none⟩ 1 1 [.int .i64 p.depth, .bool p.entry, .bool p.inHead, .bool true, .bool false, .string p.hd, .string p.key, .string p.dt, .string p.kind, .string p.raw, .string p.text] rfl rfl (World.news_of_block (heap_alloc_new _ _)) (by simp [Value.oneCell']) (by decide) (by unfold maxLen; omega) (by omega) (by simp; omega) _ rfl ?_; intro g c w1 p1 r1 t1 k1; rw [← HE.out] at p1; obtain ⟨ho1, hs1, hb1, hA1, hnA1⟩ := after_push HS0.out HA.out hnA HB.out HV.out hsz p1 r1 t1; have HA1 : Hid (w1.heap[w.heap.size]? = some (.cells #[.string p.key, .string p.dt, .pointer (some ⟨z2, 0, none⟩), .string p.kind, .string p.raw, .string p.text, .pointer (some ⟨hn, 0, none⟩), v3] 52 (0, 0))) := hA1; have hB1 : Hid (Below w0.heap.size w0 w1) := hb1; have e2_1 := cell_of_row w1 w.heap.size 2 _ _ _ hA1; have e7_1 := cell_of_row w1 w.heap.size 7 _ _ _ hA1; simp only [List.getElem?_toArray, List.getElem?_cons_succ, List.getElem?_cons_zero] at e2_1 e7_1; have n1_1 := cell_of_row w1 hn 1 _ _ _ ((hb1.block hn (lt_of_heap HH.out)).trans HH.out); simp only [List.getElem?_toArray, List.getElem?_cons_succ, List.getElem?_cons_zero] at n1_1; have z2_1 := cell_of_row w1 z2 0 _ _ _ ((hb1.block z2 (lt_of_heap HH2.out)).trans HH2.out); simp only [List.getElem?_toArray, List.getElem?_cons_zero] at z2_1; clear hA1 hb1; have HO1 : Hid (Outs w0.heap.size w1 (.slice (some ⟨g, 0, none⟩) (outs.length + 1) c) (outs ++ [p])) := ho1; have HT1 : Hid (Step w vo w1 (.slice (some ⟨g, 0, none⟩) (outs.length + 1) c)) := hs1; clear ho1 hs1 p1 r1 t1))
  refine (I2 (outs ++ [p]) (.slice (some ⟨g, 0, none⟩) (outs.length + 1) c) w1 hB1.out HO1.out (by simp; omega)).mono ?_
  rintro en w2 ⟨y2, rfl, ho2, hs2⟩
  have HO2 : Hid (Outs w0.heap.size w2 y2 (outs ++ [p] ++ L2)) := ho2
  have HT2 : Hid (Step w vo w2 y2) := HT1.out.trans hs2
  have hb2 := hs2.below hB1.out HO1.out hB1.out.size
  have hA2 := hs2.block HA1.out hnA1
  have hnA2 := hs2.notBlock hnA1 (lt_of_heap HA1.out)
  have HA2 : Hid (w2.heap[w.heap.size]? = some (.cells #[.string p.key, .string p.dt, .pointer (some ⟨z2, 0, none⟩), .string p.kind, .string p.raw, .string p.text, .pointer (some ⟨hn, 0, none⟩), v3] 52 (0, 0))) := hA2
  have hB2 : Hid (Below w0.heap.size w0 w2) := hb2
  have e2_2 := cell_of_row w2 w.heap.size 2 _ _ _ hA2
  have e7_2 := cell_of_row w2 w.heap.size 7 _ _ _ hA2
  simp only [List.getElem?_toArray, List.getElem?_cons_succ, List.getElem?_cons_zero] at e2_2 e7_2
  have n1_2 := cell_of_row w2 hn 1 _ _ _ ((hb2.block hn (lt_of_heap HH.out)).trans HH.out)
  simp only [List.getElem?_toArray, List.getElem?_cons_succ, List.getElem?_cons_zero] at n1_2
  have z2_2 := cell_of_row w2 z2 0 _ _ _ ((hb2.block z2 (lt_of_heap HH2.out)).trans HH2.out)
  simp only [List.getElem?_toArray, List.getElem?_cons_zero] at z2_2
  clear hA2 hb2 ho2 hs2
  go_wp2_with fail
  refine (I3 (outs ++ [p] ++ L2) y2 w2 hB2.out HO2.out (by simp; omega)).mono ?_
  rintro en w3 ⟨y3, rfl, ho3, hs3⟩
  have HO3 : Hid (Outs w0.heap.size w3 y3 (outs ++ [p] ++ L2 ++ L3)) := ho3
  have HT3 : Hid (Step w vo w3 y3) := HT2.out.trans hs3
  clear ho3 hs3
  go_wp2_with fail
  go_ret
  exact ⟨y3, rfl, by simpa using HO3.out, HT3.out⟩

set_option maxRecDepth 20000 in
set_option maxHeartbeats 4000000 in
theorem one_blk_n (w0 : World) (p : Pl) (outs : List Pl) (vo : Value) (w : World) (hvo : Outs w0.heap.size w vo outs) (hb : Below w0.heap.size w0 w) (hd0 : 0 ≤ p.depth) (hd1 : p.depth ≤ 40000) (z1 : Nat) (v1 : Value) (L1 : List Pl) (hn : Nat) (Hh : w0.heap[hn]? = some (.cells #[.string p.hd, .pointer (some ⟨z1, 0, none⟩)] 54 (0, 0))) (H1 : w0.heap[z1]? = some (.cells #[v1] 36 (0, 0))) (I1 : LW w0 v1 (p.depth + 1) true true L1) (v3 : Value) (L3 : List Pl) (I3 : LW w0 v3 (p.depth + 1) false false L3)
    (hl : outs.length + 1 + L1.length + L3.length ≤ 40000) (hbk : p.block = false) (hhb : p.headBlock = true) :
    Calls Try.prog 18 #[.agg #[.string p.key, .string p.dt, .pointer none, .string p.kind, .string p.raw, .string p.text, .pointer (some ⟨hn, 0, none⟩), v3], .int .i64 p.depth, .bool p.entry, .bool p.inHead, vo] w fun en w' =>
      ∃ vo', en = .returned vo' ∧ Outs w0.heap.size w' vo' (outs ++ p :: (L1 ++ L3)) ∧ Step w vo w' vo' := by
  obtain ⟨i33, q0, q1, q2, q3⟩ := info_parts info33
  have hsz := hb.size
  have HB : Hid (Below w0.heap.size w0 w) := hb
  have HV : Hid (Outs w0.heap.size w vo outs) := hvo
  have HE : Hid (p.cells = [.int .i64 p.depth, .bool p.entry, .bool p.inHead, .bool false, .bool true, .string p.hd, .string p.key, .string p.dt, .string p.kind, .string p.raw, .string p.text]) := by
    show _ = _
    simp [Pl.cells, hbk, hhb]
  have HH : Hid (w0.heap[hn]? = some (.cells #[.string p.hd, .pointer (some ⟨z1, 0, none⟩)] 54 (0, 0))) := Hh
  have hc0 : w.cell? ⟨hn, 0, none⟩ = some (.string p.hd) := (hb.cell (by exact lt_of_heap Hh)).trans (cell_of_row w0 hn 0 _ _ _ Hh)
  have hc1 : w.cell? ⟨hn, 1, none⟩ = some (.pointer (some ⟨z1, 0, none⟩)) := (hb.cell (by exact lt_of_heap Hh)).trans (cell_of_row w0 hn 1 _ _ _ Hh)
  have hnlt : hn < w.heap.size := by have := lt_of_heap Hh; omega
  have HH1 : Hid (w0.heap[z1]? = some (.cells #[v1] 36 (0, 0))) := H1
  clear hb hvo hbk hhb Hh H1
  go_enter Try.func18, Try.ntmps18
  go_upto_region 8 with fail
  obtain ⟨W, hW⟩ : ∃ W, (w.alloc (.cells #[.string p.key, .string p.dt, .pointer none, .string p.kind, .string p.raw, .string p.text, .pointer (some ⟨hn, 0, none⟩), v3] 52)).alloc (.cells #[.int .i64 p.depth, .bool p.entry, .bool p.inHead, .bool false, .bool true, .string p.hd, .string p.key, .string p.dt, .string p.kind, .string p.raw, .string p.text] 33) = W := ⟨_, rfl⟩
  rw [hW]
  have hS0 : Step w vo W vo := by rw [← hW]; exact ((Step.refl w vo).alloc _).alloc _
  have hA : W.heap[w.heap.size]? = some (.cells #[.string p.key, .string p.dt, .pointer none, .string p.kind, .string p.raw, .string p.text, .pointer (some ⟨hn, 0, none⟩), v3] 52 (0, 0)) := by
    rw [← hW, Below.heap_alloc _ _ _ (by simp)]; exact heap_alloc_new w _
  have hP : W.heap[w.heap.size + 1]? = some (.cells #[.int .i64 p.depth, .bool p.entry, .bool p.inHead, .bool false, .bool true, .string p.hd, .string p.key, .string p.dt, .string p.kind, .string p.raw, .string p.text] 33 (0, 0)) := by
    rw [← hW]; have := heap_alloc_new (w.alloc (.cells #[.string p.key, .string p.dt, .pointer none, .string p.kind, .string p.raw, .string p.text, .pointer (some ⟨hn, 0, none⟩), v3] 52)) (.cells #[.int .i64 p.depth, .bool p.entry, .bool p.inHead, .bool false, .bool true, .string p.hd, .string p.key, .string p.dt, .string p.kind, .string p.raw, .string p.text] 33)
    rwa [World.size_alloc] at this
  have hsW : w.heap.size + 2 ≤ W.heap.size := by rw [← hW]; simp
  have hp0 := cell_of_row W (w.heap.size + 1) 0 _ _ _ hP
  have hp1 := cell_of_row W (w.heap.size + 1) 1 _ _ _ hP
  have hp2 := cell_of_row W (w.heap.size + 1) 2 _ _ _ hP
  have hp3 := cell_of_row W (w.heap.size + 1) 3 _ _ _ hP
  have hp4 := cell_of_row W (w.heap.size + 1) 4 _ _ _ hP
  have hp5 := cell_of_row W (w.heap.size + 1) 5 _ _ _ hP
  have hp6 := cell_of_row W (w.heap.size + 1) 6 _ _ _ hP
  have hp7 := cell_of_row W (w.heap.size + 1) 7 _ _ _ hP
  have hp8 := cell_of_row W (w.heap.size + 1) 8 _ _ _ hP
  have hp9 := cell_of_row W (w.heap.size + 1) 9 _ _ _ hP
  have hp10 := cell_of_row W (w.heap.size + 1) 10 _ _ _ hP
  simp only [List.getElem?_toArray, List.getElem?_cons_succ, List.getElem?_cons_zero] at hp0 hp1 hp2 hp3 hp4 hp5 hp6 hp7 hp8 hp9 hp10
  have hvW : W.ownsRow w0.heap.size 33 11 vo outs.length (outs.flatMap Pl.cells) := by rw [← hW]; exact (HV.out.alloc _).alloc _
  have hnA : vo.ownBlock ≠ some w.heap.size := fun e => by have := (HV.out.lt _ e).2; omega
  have HA : Hid (W.heap[w.heap.size]? = some (.cells #[.string p.key, .string p.dt, .pointer none, .string p.kind, .string p.raw, .string p.text, .pointer (some ⟨hn, 0, none⟩), v3] 52 (0, 0))) := hA
  have HS0 : Hid (Step w vo W vo) := hS0
  clear hW hA hS0 hP
  go_wp2_with (first
    | (at_builtin; refine wpList_append_lies _ rfl (.tmp 61) (.tmp 63) 22 rfl w0.heap.size 33 i33 _ 11 112 Try.underlying22 q0 q1 q2 q3 rfl (by decide) vo outs.length _ rfl (hvW.alloc _) ⟨_, 0, none⟩ 1 1 [.int .i64 p.depth, .bool p.entry, .bool p.inHead, .bool false, .bool true, .string p.hd, .string p.key, .string p.dt, .string p.kind, .string p.raw, .string p.text] rfl rfl (World.news_of_block (heap_alloc_new _ _)) (by simp [Value.oneCell']) (by decide) (by unfold maxLen; omega) (by omega) (by simp; omega) _ rfl ?_; intro g c w1 p1 r1 t1 k1; rw [← HE.out] at p1; obtain ⟨ho1, hs1, hb1, hA1, hnA1⟩ := after_push HS0.out HA.out hnA HB.out HV.out hsz p1 r1 t1; have HA1 : Hid (w1.heap[w.heap.size]? = some (.cells #[.string p.key, .string p.dt, .pointer none, .string p.kind, .string p.raw, .string p.text, .pointer (some ⟨hn, 0, none⟩), v3] 52 (0, 0))) := hA1; have hB1 : Hid (Below w0.heap.size w0 w1) := hb1; have e2_1 := cell_of_row w1 w.heap.size 2 _ _ _ hA1; have e7_1 := cell_of_row w1 w.heap.size 7 _ _ _ hA1; simp only [List.getElem?_toArray, List.getElem?_cons_succ, List.getElem?_cons_zero] at e2_1 e7_1; have n1_1 := cell_of_row w1 hn 1 _ _ _ ((hb1.block hn (lt_of_heap HH.out)).trans HH.out); simp only [List.getElem?_toArray, List.getElem?_cons_succ, List.getElem?_cons_zero] at n1_1; have z1_1 := cell_of_row w1 z1 0 _ _ _ ((hb1.block z1 (lt_of_heap HH1.out)).trans HH1.out); simp only [List.getElem?_toArray, List.getElem?_cons_zero] at z1_1; clear hA1 hb1; have HO1 : Hid (Outs w0.heap.size w1 (.slice (some ⟨g, 0, none⟩) (outs.length + 1) c) (outs ++ [p])) := ho1; have HT1 : Hid (Step w vo w1 (.slice (some ⟨g, 0, none⟩) (outs.length + 1) c)) := hs1; clear ho1 hs1 p1 r1 t1))
  refine (I1 (outs ++ [p]) (.slice (some ⟨g, 0, none⟩) (outs.length + 1) c) w1 hB1.out HO1.out (by simp; omega)).mono ?_
  rintro en w2 ⟨y2, rfl, ho2, hs2⟩
  have HO2 : Hid (Outs w0.heap.size w2 y2 (outs ++ [p] ++ L1)) := ho2
  have HT2 : Hid (Step w vo w2 y2) := HT1.out.trans hs2
  have hb2 := hs2.below hB1.out HO1.out hB1.out.size
  have hA2 := hs2.block HA1.out hnA1
  have hnA2 := hs2.notBlock hnA1 (lt_of_heap HA1.out)
  have HA2 : Hid (w2.heap[w.heap.size]? = some (.cells #[.string p.key, .string p.dt, .pointer none, .string p.kind, .string p.raw, .string p.text, .pointer (some ⟨hn, 0, none⟩), v3] 52 (0, 0))) := hA2
  have hB2 : Hid (Below w0.heap.size w0 w2) := hb2
  have e2_2 := cell_of_row w2 w.heap.size 2 _ _ _ hA2
  have e7_2 := cell_of_row w2 w.heap.size 7 _ _ _ hA2
  simp only [List.getElem?_toArray, List.getElem?_cons_succ, List.getElem?_cons_zero] at e2_2 e7_2
  have n1_2 := cell_of_row w2 hn 1 _ _ _ ((hb2.block hn (lt_of_heap HH.out)).trans HH.out)
  simp only [List.getElem?_toArray, List.getElem?_cons_succ, List.getElem?_cons_zero] at n1_2
  have z1_2 := cell_of_row w2 z1 0 _ _ _ ((hb2.block z1 (lt_of_heap HH1.out)).trans HH1.out)
  simp only [List.getElem?_toArray, List.getElem?_cons_zero] at z1_2
  clear hA2 hb2 ho2 hs2
  go_wp2_with fail
  refine (I3 (outs ++ [p] ++ L1) y2 w2 hB2.out HO2.out (by simp; omega)).mono ?_
  rintro en w3 ⟨y3, rfl, ho3, hs3⟩
  have HO3 : Hid (Outs w0.heap.size w3 y3 (outs ++ [p] ++ L1 ++ L3)) := ho3
  have HT3 : Hid (Step w vo w3 y3) := HT2.out.trans hs3
  clear ho3 hs3
  go_wp2_with fail
  go_ret
  exact ⟨y3, rfl, by simpa using HO3.out, HT3.out⟩

set_option maxRecDepth 20000 in
set_option maxHeartbeats 4000000 in
theorem one_blk_b (w0 : World) (p : Pl) (outs : List Pl) (vo : Value) (w : World) (hvo : Outs w0.heap.size w vo outs) (hb : Below w0.heap.size w0 w) (hd0 : 0 ≤ p.depth) (hd1 : p.depth ≤ 40000) (z1 : Nat) (v1 : Value) (L1 : List Pl) (hn : Nat) (Hh : w0.heap[hn]? = some (.cells #[.string p.hd, .pointer (some ⟨z1, 0, none⟩)] 54 (0, 0))) (H1 : w0.heap[z1]? = some (.cells #[v1] 36 (0, 0))) (I1 : LW w0 v1 (p.depth + 1) true true L1) (z2 : Nat) (v2 : Value) (L2 : List Pl) (H2 : w0.heap[z2]? = some (.cells #[v2] 36 (0, 0))) (I2 : LW w0 v2 (p.depth + 1) true false L2) (v3 : Value) (L3 : List Pl) (I3 : LW w0 v3 (p.depth + 1) false false L3)
    (hl : outs.length + 1 + L1.length + L2.length + L3.length ≤ 40000) (hbk : p.block = true) (hhb : p.headBlock = true) :
    Calls Try.prog 18 #[.agg #[.string p.key, .string p.dt, .pointer (some ⟨z2, 0, none⟩), .string p.kind, .string p.raw, .string p.text, .pointer (some ⟨hn, 0, none⟩), v3], .int .i64 p.depth, .bool p.entry, .bool p.inHead, vo] w fun en w' =>
      ∃ vo', en = .returned vo' ∧ Outs w0.heap.size w' vo' (outs ++ p :: (L1 ++ (L2 ++ L3))) ∧ Step w vo w' vo' := by
  obtain ⟨i33, q0, q1, q2, q3⟩ := info_parts info33
  have hsz := hb.size
  have HB : Hid (Below w0.heap.size w0 w) := hb
  have HV : Hid (Outs w0.heap.size w vo outs) := hvo
  have HE : Hid (p.cells = [.int .i64 p.depth, .bool p.entry, .bool p.inHead, .bool true, .bool true, .string p.hd, .string p.key, .string p.dt, .string p.kind, .string p.raw, .string p.text]) := by
    show _ = _
    simp [Pl.cells, hbk, hhb]
  have HH : Hid (w0.heap[hn]? = some (.cells #[.string p.hd, .pointer (some ⟨z1, 0, none⟩)] 54 (0, 0))) := Hh
  have hc0 : w.cell? ⟨hn, 0, none⟩ = some (.string p.hd) := (hb.cell (by exact lt_of_heap Hh)).trans (cell_of_row w0 hn 0 _ _ _ Hh)
  have hc1 : w.cell? ⟨hn, 1, none⟩ = some (.pointer (some ⟨z1, 0, none⟩)) := (hb.cell (by exact lt_of_heap Hh)).trans (cell_of_row w0 hn 1 _ _ _ Hh)
  have hnlt : hn < w.heap.size := by have := lt_of_heap Hh; omega
  have HH1 : Hid (w0.heap[z1]? = some (.cells #[v1] 36 (0, 0))) := H1
  have HH2 : Hid (w0.heap[z2]? = some (.cells #[v2] 36 (0, 0))) := H2
  clear hb hvo hbk hhb Hh H1 H2
  go_enter Try.func18, Try.ntmps18
  go_upto_region 8 with fail
  obtain ⟨W, hW⟩ : ∃ W, (w.alloc (.cells #[.string p.key, .string p.dt, .pointer (some ⟨z2, 0, none⟩), .string p.kind, .string p.raw, .string p.text, .pointer (some ⟨hn, 0, none⟩), v3] 52)).alloc (.cells #[.int .i64 p.depth, .bool p.entry, .bool p.inHead, .bool true, .bool true, .string p.hd, .string p.key, .string p.dt, .string p.kind, .string p.raw, .string p.text] 33) = W := ⟨_, rfl⟩
  rw [hW]
  have hS0 : Step w vo W vo := by rw [← hW]; exact ((Step.refl w vo).alloc _).alloc _
  have hA : W.heap[w.heap.size]? = some (.cells #[.string p.key, .string p.dt, .pointer (some ⟨z2, 0, none⟩), .string p.kind, .string p.raw, .string p.text, .pointer (some ⟨hn, 0, none⟩), v3] 52 (0, 0)) := by
    rw [← hW, Below.heap_alloc _ _ _ (by simp)]; exact heap_alloc_new w _
  have hP : W.heap[w.heap.size + 1]? = some (.cells #[.int .i64 p.depth, .bool p.entry, .bool p.inHead, .bool true, .bool true, .string p.hd, .string p.key, .string p.dt, .string p.kind, .string p.raw, .string p.text] 33 (0, 0)) := by
    rw [← hW]; have := heap_alloc_new (w.alloc (.cells #[.string p.key, .string p.dt, .pointer (some ⟨z2, 0, none⟩), .string p.kind, .string p.raw, .string p.text, .pointer (some ⟨hn, 0, none⟩), v3] 52)) (.cells #[.int .i64 p.depth, .bool p.entry, .bool p.inHead, .bool true, .bool true, .string p.hd, .string p.key, .string p.dt, .string p.kind, .string p.raw, .string p.text] 33)
    rwa [World.size_alloc] at this
  have hsW : w.heap.size + 2 ≤ W.heap.size := by rw [← hW]; simp
  have hp0 := cell_of_row W (w.heap.size + 1) 0 _ _ _ hP
  have hp1 := cell_of_row W (w.heap.size + 1) 1 _ _ _ hP
  have hp2 := cell_of_row W (w.heap.size + 1) 2 _ _ _ hP
  have hp3 := cell_of_row W (w.heap.size + 1) 3 _ _ _ hP
  have hp4 := cell_of_row W (w.heap.size + 1) 4 _ _ _ hP
  have hp5 := cell_of_row W (w.heap.size + 1) 5 _ _ _ hP
  have hp6 := cell_of_row W (w.heap.size + 1) 6 _ _ _ hP
  have hp7 := cell_of_row W (w.heap.size + 1) 7 _ _ _ hP
  have hp8 := cell_of_row W (w.heap.size + 1) 8 _ _ _ hP
  have hp9 := cell_of_row W (w.heap.size + 1) 9 _ _ _ hP
  have hp10 := cell_of_row W (w.heap.size + 1) 10 _ _ _ hP
  simp only [List.getElem?_toArray, List.getElem?_cons_succ, List.getElem?_cons_zero] at hp0 hp1 hp2 hp3 hp4 hp5 hp6 hp7 hp8 hp9 hp10
  have hvW : W.ownsRow w0.heap.size 33 11 vo outs.length (outs.flatMap Pl.cells) := by rw [← hW]; exact (HV.out.alloc _).alloc _
  have hnA : vo.ownBlock ≠ some w.heap.size := fun e => by have := (HV.out.lt _ e).2; omega
  have HA : Hid (W.heap[w.heap.size]? = some (.cells #[.string p.key, .string p.dt, .pointer (some ⟨z2, 0, none⟩), .string p.kind, .string p.raw, .string p.text, .pointer (some ⟨hn, 0, none⟩), v3] 52 (0, 0))) := hA
  have HS0 : Hid (Step w vo W vo) := hS0
  clear hW hA hS0 hP
  go_wp2_with (first
    | (at_builtin; refine wpList_append_lies _ rfl (.tmp 61) (.tmp 63) 22 rfl w0.heap.size 33 i33 _ 11 112 Try.underlying22 q0 q1 q2 q3 rfl (by decide) vo outs.length _ rfl (hvW.alloc _) ⟨_, 0, none⟩ 1 1 [.int .i64 p.depth, .bool p.entry, .bool p.inHead, .bool true, .bool true, .string p.hd, .string p.key, .string p.dt, .string p.kind, .string p.raw, .string p.text] rfl rfl (World.news_of_block (heap_alloc_new _ _)) (by simp [Value.oneCell']) (by decide) (by unfold maxLen; omega) (by omega) (by simp; omega) _ rfl ?_; intro g c w1 p1 r1 t1 k1; rw [← HE.out] at p1; obtain ⟨ho1, hs1, hb1, hA1, hnA1⟩ := after_push HS0.out HA.out hnA HB.out HV.out hsz p1 r1 t1; have HA1 : Hid (w1.heap[w.heap.size]? = some (.cells #[.string p.key, .string p.dt, .pointer (some ⟨z2, 0, none⟩), .string p.kind, .string p.raw, .string p.text, .pointer (some ⟨hn, 0, none⟩), v3] 52 (0, 0))) := hA1; have hB1 : Hid (Below w0.heap.size w0 w1) := hb1; have e2_1 := cell_of_row w1 w.heap.size 2 _ _ _ hA1; have e7_1 := cell_of_row w1 w.heap.size 7 _ _ _ hA1; simp only [List.getElem?_toArray, List.getElem?_cons_succ, List.getElem?_cons_zero] at e2_1 e7_1; have n1_1 := cell_of_row w1 hn 1 _ _ _ ((hb1.block hn (lt_of_heap HH.out)).trans HH.out); simp only [List.getElem?_toArray, List.getElem?_cons_succ, List.getElem?_cons_zero] at n1_1; have z1_1 := cell_of_row w1 z1 0 _ _ _ ((hb1.block z1 (lt_of_heap HH1.out)).trans HH1.out); simp only [List.getElem?_toArray, List.getElem?_cons_zero] at z1_1; have z2_1 := cell_of_row w1 z2 0 _ _ _ ((hb1.block z2 (lt_of_heap HH2.out)).trans HH2.out); simp only [List.getElem?_toArray, List.getElem?_cons_zero] at z2_1; clear hA1 hb1; have HO1 : Hid (Outs w0.heap.size w1 (.slice (some ⟨g, 0, none⟩) (outs.length + 1) c) (outs ++ [p])) := ho1; have HT1 : Hid (Step w vo w1 (.slice (some ⟨g, 0, none⟩) (outs.length + 1) c)) := hs1; clear ho1 hs1 p1 r1 t1))
  refine (I1 (outs ++ [p]) (.slice (some ⟨g, 0, none⟩) (outs.length + 1) c) w1 hB1.out HO1.out (by simp; omega)).mono ?_
  rintro en w2 ⟨y2, rfl, ho2, hs2⟩
  have HO2 : Hid (Outs w0.heap.size w2 y2 (outs ++ [p] ++ L1)) := ho2
  have HT2 : Hid (Step w vo w2 y2) := HT1.out.trans hs2
  have hb2 := hs2.below hB1.out HO1.out hB1.out.size
  have hA2 := hs2.block HA1.out hnA1
  have hnA2 := hs2.notBlock hnA1 (lt_of_heap HA1.out)
  have HA2 : Hid (w2.heap[w.heap.size]? = some (.cells #[.string p.key, .string p.dt, .pointer (some ⟨z2, 0, none⟩), .string p.kind, .string p.raw, .string p.text, .pointer (some ⟨hn, 0, none⟩), v3] 52 (0, 0))) := hA2
  have hB2 : Hid (Below w0.heap.size w0 w2) := hb2
  have e2_2 := cell_of_row w2 w.heap.size 2 _ _ _ hA2
  have e7_2 := cell_of_row w2 w.heap.size 7 _ _ _ hA2
  simp only [List.getElem?_toArray, List.getElem?_cons_succ, List.getElem?_cons_zero] at e2_2 e7_2
  have n1_2 := cell_of_row w2 hn 1 _ _ _ ((hb2.block hn (lt_of_heap HH.out)).trans HH.out)
  simp only [List.getElem?_toArray, List.getElem?_cons_succ, List.getElem?_cons_zero] at n1_2
  have z1_2 := cell_of_row w2 z1 0 _ _ _ ((hb2.block z1 (lt_of_heap HH1.out)).trans HH1.out)
  simp only [List.getElem?_toArray, List.getElem?_cons_zero] at z1_2
  have z2_2 := cell_of_row w2 z2 0 _ _ _ ((hb2.block z2 (lt_of_heap HH2.out)).trans HH2.out)
  simp only [List.getElem?_toArray, List.getElem?_cons_zero] at z2_2
  clear hA2 hb2 ho2 hs2
  go_wp2_with fail
  refine (I2 (outs ++ [p] ++ L1) y2 w2 hB2.out HO2.out (by simp; omega)).mono ?_
  rintro en w3 ⟨y3, rfl, ho3, hs3⟩
  have HO3 : Hid (Outs w0.heap.size w3 y3 (outs ++ [p] ++ L1 ++ L2)) := ho3
  have HT3 : Hid (Step w vo w3 y3) := HT2.out.trans hs3
  have hb3 := hs3.below hB2.out HO2.out hB2.out.size
  have hA3 := hs3.block HA2.out hnA2
  have hnA3 := hs3.notBlock hnA2 (lt_of_heap HA2.out)
  have HA3 : Hid (w3.heap[w.heap.size]? = some (.cells #[.string p.key, .string p.dt, .pointer (some ⟨z2, 0, none⟩), .string p.kind, .string p.raw, .string p.text, .pointer (some ⟨hn, 0, none⟩), v3] 52 (0, 0))) := hA3
  have hB3 : Hid (Below w0.heap.size w0 w3) := hb3
  have e2_3 := cell_of_row w3 w.heap.size 2 _ _ _ hA3
  have e7_3 := cell_of_row w3 w.heap.size 7 _ _ _ hA3
  simp only [List.getElem?_toArray, List.getElem?_cons_succ, List.getElem?_cons_zero] at e2_3 e7_3
  have n1_3 := cell_of_row w3 hn 1 _ _ _ ((hb3.block hn (lt_of_heap HH.out)).trans HH.out)
  simp only [List.getElem?_toArray, List.getElem?_cons_succ, List.getElem?_cons_zero] at n1_3
  have z1_3 := cell_of_row w3 z1 0 _ _ _ ((hb3.block z1 (lt_of_heap HH1.out)).trans HH1.out)
  simp only [List.getElem?_toArray, List.getElem?_cons_zero] at z1_3
  have z2_3 := cell_of_row w3 z2 0 _ _ _ ((hb3.block z2 (lt_of_heap HH2.out)).trans HH2.out)
  simp only [List.getElem?_toArray, List.getElem?_cons_zero] at z2_3
  clear hA3 hb3 ho3 hs3
  go_wp2_with fail
  refine (I3 (outs ++ [p] ++ L1 ++ L2) y3 w3 hB3.out HO3.out (by simp; omega)).mono ?_
  rintro en w4 ⟨y4, rfl, ho4, hs4⟩
  have HO4 : Hid (Outs w0.heap.size w4 y4 (outs ++ [p] ++ L1 ++ L2 ++ L3)) := ho4
  have HT4 : Hid (Step w vo w4 y4) := HT3.out.trans hs4
  clear ho4 hs4
  go_wp2_with fail
  go_ret
  exact ⟨y4, rfl, by simpa using HO4.out, HT4.out⟩

end Go.Proofs.Qxb6609332a
