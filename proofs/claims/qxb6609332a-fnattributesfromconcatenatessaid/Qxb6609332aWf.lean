/-
  Seat b6609332a: zzWellFormed (function 7): the plain law's shape ('wfTo') and the walk.
-/
import Derived.Test.Qxb6609332aLaws
import Derived.Deep.DeepCutAuto
namespace Go.Proofs.Qxb6609332a
open Go.RowKit

/-- One level of the stack: does the place carry a block, a head block; the class of its last child. -/
structure Fr where
  blk : Bool
  hd : Bool
  last : Int

/-- 0: an entry of the head block; 1: an entry of the own block; 2: contents. -/
def Pl.cls (p : Pl) : Int := if p.inHead then 0 else if p.entry then 1 else 2
/-- May the place stand under a place of that level? -/
def okAt (f : Fr) (p : Pl) : Bool := if p.inHead then p.entry && f.hd else if p.entry then f.blk else true
def Pl.fr (p : Pl) : Fr := ⟨p.block, p.headBlock, -1⟩
/-- What is left of the stack ahead of the push. -/
def wfPre (st : List Fr) (p : Pl) : Option (List Fr) :=
  if p.depth < 0 ∨ (st.length : Int) < p.depth then none
  else if p.depth = 0 then (if p.entry || p.inHead then none else some [])
  else match st[p.depth.toNat - 1]? with
    | none => none
    | some f => if okAt f p = false ∨ p.cls < f.last then none else some (st.take (p.depth.toNat - 1) ++ [⟨f.blk, f.hd, p.cls⟩])
def wfStep (st : List Fr) (p : Pl) : Option (List Fr) := (wfPre st p).map (· ++ [p.fr])
/-- The stack behind the first k places; none: they are not well formed. -/
def wfTo (S : Nat → Pl) : Nat → Option (List Fr)
  | 0 => some []
  | k + 1 => (wfTo S k).bind (wfStep · (S k))
theorem wfTo_len {S : Nat → Pl} : ∀ {k : Nat} {st : List Fr}, wfTo S k = some st → st.length ≤ k
  | 0, st, h => by simp [wfTo] at h; subst h; simp
  | k + 1, st, h => by
    simp only [wfTo, Option.bind_eq_some_iff] at h
    obtain ⟨st0, h0, h1⟩ := h
    have := wfTo_len h0
    simp only [wfStep, Option.map_eq_some_iff] at h1
    obtain ⟨st1, h1, rfl⟩ := h1
    have hl : st1.length ≤ st0.length := by
      unfold wfPre at h1
      split at h1
      · cases h1
      · split at h1
        · split at h1
          · cases h1
          · cases h1; simp
        · split at h1
          · cases h1
          · rename_i f hf
            split at h1
            · cases h1
            · have := (List.getElem?_eq_some_iff.1 hf).1
              cases h1
              simp; omega
    simp; omega

/-- How zzWellFormed ends: a bool; where it is true the places are well formed. -/
def WfEnd (S : Nat → Pl) (len : Nat) (e : Ending) : Prop := ∃ r : Bool, e = .returned (.bool r) ∧ (r = true → (wfTo S len).isSome = true)
theorem wfEnd_false (S : Nat → Pl) (len : Nat) : WfEnd S len (.returned (.bool false)) := ⟨false, rfl, fun h => by cases h⟩
theorem wfEnd_true {S : Nat → Pl} {len : Nat} {st : List Fr} (h : wfTo S len = some st) : WfEnd S len (.returned (.bool true)) := ⟨true, rfl, fun _ => by rw [h]; rfl⟩

/-- The three slices hold the stack. -/
def Stk (B : Nat) (w : World) (v1 v2 v3 : Value) (st : List Fr) : Prop :=
  w.ownsRow B 4 1 v1 st.length (st.map fun f => .bool f.blk) ∧ w.ownsRow B 4 1 v2 st.length (st.map fun f => .bool f.hd) ∧ w.ownsRow B 3 1 v3 st.length (st.map fun f => .int .i64 f.last) ∧
  ∀ g, v1.ownBlock = some g → v2.ownBlock ≠ some g

theorem info4 : (Try.prog.info? 4).map (fun i => (i.zero, i.size, i.bytes)) = some (some (.bool false), 1, 1) := by kernel_rfl
theorem info3 : (Try.prog.info? 3).map (fun i => (i.zero, i.size, i.bytes)) = some (some (.int .i64 0), 1, 8) := by kernel_rfl

theorem wfPre_zero {st : List Fr} {p : Pl} (hd : p.depth = 0) (he : p.entry = false) (hi : p.inHead = false) : wfPre st p = some [] := by
  unfold wfPre
  rw [if_neg (by omega), if_pos hd]
  simp [he, hi]
theorem wfPre_succ {st : List Fr} {p : Pl} {h : Nat} {f : Fr} (hd : p.depth = (h : Int) + 1) (hf : st[h]? = some f) (hok : okAt f p = true) (hc : f.last ≤ p.cls) :
    wfPre st p = some (st.take h ++ [⟨f.blk, f.hd, p.cls⟩]) := by
  have hlt := (List.getElem?_eq_some_iff.1 hf).1
  have e : p.depth.toNat - 1 = h := by omega
  unfold wfPre
  rw [if_neg (by omega), if_neg (by omega), e, hf]
  simp only
  rw [if_neg (by rw [hok]; simp; omega)]

/-- A slice that owns a stack's cells: nil (and the stack is empty) or written out. -/
theorem owns_form {w : World} {B e size n : Nat} {v : Value} {xs : List Value} (h : w.ownsRow B e size v n xs) : (v = .slice none 0 0 ∧ n = 0) ∨ ∃ g c, v = .slice (some ⟨g, 0, none⟩) n c := by
  rcases h.2 with h | ⟨g, cap, cur, rfl, _⟩
  · exact .inl h
  · exact .inr ⟨g, cap, rfl⟩

/-- The stack cut to its first h + 1 levels, the last one's class laid. -/
theorem stk_cut {B : Nat} {wr : World} {g1 c1 g2 c2 g3 c3 : Nat} {st : List Fr} (hS : Stk B wr (.slice (some ⟨g1, 0, none⟩) st.length c1) (.slice (some ⟨g2, 0, none⟩) st.length c2) (.slice (some ⟨g3, 0, none⟩) st.length c3) st)
    {h : Nat} {f : Fr} (hf : st[h]? = some f) (c : Int) (o : Obj) :
    Stk B ((wr.setCell ⟨g3, h, none⟩ (.int .i64 c)).alloc o) (.slice (some ⟨g1, 0, none⟩) (h + 1) c1) (.slice (some ⟨g2, 0, none⟩) (h + 1) c2) (.slice (some ⟨g3, 0, none⟩) (h + 1) c3) (st.take h ++ [⟨f.blk, f.hd, c⟩]) := by
  obtain ⟨h1, h2, h3, hap⟩ := hS
  have hlt := (List.getElem?_eq_some_iff.1 hf).1
  have hfe : st[h] = f := (List.getElem?_eq_some_iff.1 hf).2
  have htk : st.take (h + 1) = st.take h ++ [f] := by rw [List.take_succ_eq_append_getElem hlt, hfe]
  have hl : (st.take h ++ [(⟨f.blk, f.hd, c⟩ : Fr)]).length = h + 1 := by simp; omega
  have a13 : (Value.slice (some ⟨g1, 0, none⟩) (h + 1) c1).ownBlock ≠ some g3 := fun e => owns_apart h1 h3 (by decide) e rfl
  have a23 : (Value.slice (some ⟨g2, 0, none⟩) (h + 1) c2).ownBlock ≠ some g3 := fun e => owns_apart h2 h3 (by decide) e rfl
  have t1 := (owns_other (owns_take h1 (d := h + 1) (by omega)) (j := h) (.int .i64 c) a13).alloc o
  have t2 := (owns_other (owns_take h2 (d := h + 1) (by omega)) (j := h) (.int .i64 c) a23).alloc o
  have t3 := (((owns_take h3 (d := h + 1) (by omega)).stored h (.int .i64 c)).1).alloc o
  rw [Nat.mul_one, ← List.map_take, htk] at t1 t2 t3
  unfold Stk
  rw [hl]
  refine ⟨by simpa using t1, by simpa using t2, ?_, hap⟩
  have e : (List.map (fun f => Value.int .i64 f.last) (st.take h ++ [f])).set h (.int .i64 c) = List.map (fun f => Value.int .i64 f.last) (st.take h ++ [(⟨f.blk, f.hd, c⟩ : Fr)]) := by
    rw [List.map_append, List.map_append, List.set_append_right _ _ (by simp; omega)]
    simp [Nat.min_eq_left (Nat.le_of_lt hlt)]
  rwa [e] at t3
/-- .. to none at all. -/
theorem stk_zero {B : Nat} {wr : World} {v1 v2 v3 : Value} {st : List Fr} (hS : Stk B wr v1 v2 v3 st) (o : Obj) {u1 u2 u3 : Value}
    (e1 : (v1 = .slice none 0 0 ∧ u1 = .slice none 0 0) ∨ ∃ g c, v1 = .slice (some ⟨g, 0, none⟩) st.length c ∧ u1 = .slice (some ⟨g, 0, none⟩) 0 c)
    (e2 : (v2 = .slice none 0 0 ∧ u2 = .slice none 0 0) ∨ ∃ g c, v2 = .slice (some ⟨g, 0, none⟩) st.length c ∧ u2 = .slice (some ⟨g, 0, none⟩) 0 c)
    (e3 : (v3 = .slice none 0 0 ∧ u3 = .slice none 0 0) ∨ ∃ g c, v3 = .slice (some ⟨g, 0, none⟩) st.length c ∧ u3 = .slice (some ⟨g, 0, none⟩) 0 c) :
    Stk B (wr.alloc o) u1 u2 u3 [] := by
  obtain ⟨h1, h2, h3, hap⟩ := hS
  refine ⟨?_, ?_, ?_, ?_⟩
  · rcases e1 with ⟨_, rfl⟩ | ⟨g, c, rfl, rfl⟩
    · exact World.ownsRow_nil _ _ _ _
    · simpa using owns_take (h1.alloc o) (d := 0) (Nat.zero_le _)
  · rcases e2 with ⟨_, rfl⟩ | ⟨g, c, rfl, rfl⟩
    · exact World.ownsRow_nil _ _ _ _
    · simpa using owns_take (h2.alloc o) (d := 0) (Nat.zero_le _)
  · rcases e3 with ⟨_, rfl⟩ | ⟨g, c, rfl, rfl⟩
    · exact World.ownsRow_nil _ _ _ _
    · simpa using owns_take (h3.alloc o) (d := 0) (Nat.zero_le _)
  · rcases e1 with ⟨_, rfl⟩ | ⟨g, c, rfl, rfl⟩
    · intro g h; cases h
    · rcases e2 with ⟨_, rfl⟩ | ⟨g', c', rfl, rfl⟩
      · intro _ _ h; cases h
      · exact hap

/-- 'v[:0]' of a slice that is nil or written out. -/
theorem cut0_37 {v : Value} {n : Nat} (h : (v = .slice none 0 0 ∧ n = 0) ∨ ∃ g c, v = .slice (some ⟨g, 0, none⟩) n c) :
    ∃ u, (∀ W, (Instr.slice 37 v none (some (.int .i64 0)) none).run Try.prog W = .ok u W) ∧ ((v = .slice none 0 0 ∧ u = .slice none 0 0) ∨ ∃ g c, v = .slice (some ⟨g, 0, none⟩) n c ∧ u = .slice (some ⟨g, 0, none⟩) 0 c) := by
  rcases h with ⟨rfl, _⟩ | ⟨g, c, rfl⟩
  · exact ⟨.slice none 0 0, fun W => by kernel_rfl, .inl ⟨rfl, rfl⟩⟩
  · exact ⟨.slice (some ⟨g, 0, none⟩) 0 c, fun W => by simp [go_sem, Try.underlying37], .inr ⟨g, c, rfl, rfl⟩⟩
theorem cut0_38 {v : Value} {n : Nat} (h : (v = .slice none 0 0 ∧ n = 0) ∨ ∃ g c, v = .slice (some ⟨g, 0, none⟩) n c) :
    ∃ u, (∀ W, (Instr.slice 38 v none (some (.int .i64 0)) none).run Try.prog W = .ok u W) ∧ ((v = .slice none 0 0 ∧ u = .slice none 0 0) ∨ ∃ g c, v = .slice (some ⟨g, 0, none⟩) n c ∧ u = .slice (some ⟨g, 0, none⟩) 0 c) := by
  rcases h with ⟨rfl, _⟩ | ⟨g, c, rfl⟩
  · exact ⟨.slice none 0 0, fun W => by kernel_rfl, .inl ⟨rfl, rfl⟩⟩
  · exact ⟨.slice (some ⟨g, 0, none⟩) 0 c, fun W => by simp [go_sem, Try.underlying38], .inr ⟨g, c, rfl, rfl⟩⟩

/-- The three pushes, behind one another. -/
theorem stk_push {B : Nat} {W : World} {v1 v2 v3 : Value} {st : List Fr} (f : Fr) (hS : Stk B W v1 v2 v3 st) (hsz : B ≤ W.heap.size) {o1 o2 o3 : Obj} {w1 w2 w3 : World} {g1 c1 g2 c2 g3 c3 : Nat}
    (p1 : w1.ownsRow B 4 1 (.slice (some ⟨g1, 0, none⟩) (st.length + 1) c1) (st.length + 1) (st.map (fun f => Value.bool f.blk) ++ [.bool f.blk])) (r1 : (W.alloc o1).grownBy w1 v1.ownBlock) (t1 : v1.ownBlock = some g1 ∨ g1 = (W.alloc o1).heap.size)
    (p2 : w2.ownsRow B 4 1 (.slice (some ⟨g2, 0, none⟩) (st.length + 1) c2) (st.length + 1) (st.map (fun f => Value.bool f.hd) ++ [.bool f.hd])) (r2 : (w1.alloc o2).grownBy w2 v2.ownBlock) (t2 : v2.ownBlock = some g2 ∨ g2 = (w1.alloc o2).heap.size)
    (p3 : w3.ownsRow B 3 1 (.slice (some ⟨g3, 0, none⟩) (st.length + 1) c3) (st.length + 1) (st.map (fun f => Value.int .i64 f.last) ++ [.int .i64 f.last])) (r3 : (w2.alloc o3).grownBy w3 v3.ownBlock) :
    Stk B w3 (.slice (some ⟨g1, 0, none⟩) (st.length + 1) c1) (.slice (some ⟨g2, 0, none⟩) (st.length + 1) c2) (.slice (some ⟨g3, 0, none⟩) (st.length + 1) c3) (st ++ [f]) ∧ Below B W w3 := by
  obtain ⟨h1, h2, h3, hap⟩ := hS
  have l1 := (owns_cap p1).2.2
  have l2 := (owns_cap p2).2.2
  have s1 : W.heap.size < w1.heap.size := by have := r1.size; simp at this; omega
  have s2 : w1.heap.size < w2.heap.size := by have := r2.size; simp at this; omega
  -- the first new row is not the second slice's
  have x12 : v2.ownBlock ≠ some g1 := by
    rcases t1 with t1 | t1
    · exact hap g1 t1
    · intro e
      have := (h2.lt g1 e).2
      simp at t1; omega
  have q1 : (w1.alloc o2).ownsRow B 4 1 (.slice (some ⟨g1, 0, none⟩) (st.length + 1) c1) (st.length + 1) (st.map (fun f => Value.bool f.blk) ++ [.bool f.blk]) := p1.alloc _
  have q1' := q1.kept r2 (.inr (fun e => x12 (by simpa [Value.ownBlock] using e.symm)))
  have hg12 : g1 ≠ g2 := by
    rcases t2 with t2 | t2
    · intro e; exact x12 (by rw [t2, e])
    · simp at t2; omega
  have a13 : v3.ownBlock ≠ some g1 := fun e => by
    have hq : (w1.alloc o2).ownsRow B 3 1 v3 st.length (st.map fun f => .int .i64 f.last) := by
      refine ((h3.alloc o1).kept r1 ?_).alloc o2
      cases hv : v1.ownBlock with
      | none => right; rw [e]; simp
      | some y => right; intro e'; exact owns_apart h1 h3 (by decide) hv e'
    exact owns_apart q1 hq (by decide) rfl e
  have h3w2 : w2.ownsRow B 3 1 v3 st.length (st.map fun f => .int .i64 f.last) := by
    have hq : (w1.alloc o2).ownsRow B 3 1 v3 st.length (st.map fun f => .int .i64 f.last) := by
      refine ((h3.alloc o1).kept r1 ?_).alloc o2
      cases hv : v1.ownBlock with
      | none => cases hv3 : v3.ownBlock <;> simp
      | some y => right; intro e'; exact owns_apart h1 h3 (by decide) hv e'
    refine hq.kept r2 ?_
    cases hv : v2.ownBlock with
    | none => cases hv3 : v3.ownBlock <;> simp
    | some y => right; intro e'; exact owns_apart h2 h3 (by decide) hv e'
  have a23 : v3.ownBlock ≠ some g2 := fun e => owns_apart p2 h3w2 (by decide) rfl e
  have z1 := (q1'.alloc o3).kept r3 (.inr (fun e => a13 (by simpa [Value.ownBlock] using e.symm)))
  have z2 := (p2.alloc o3).kept r3 (.inr (fun e => a23 (by simpa [Value.ownBlock] using e.symm)))
  refine ⟨⟨by simpa using z1, by simpa using z2, by simpa using p3, fun g e e' => ?_⟩, ?_⟩
  · simp only [Value.ownBlock, Option.some.injEq] at e e'
    exact hg12 (e.trans e'.symm)
  · have b1 : Below B W w1 := ((Below.refl B W).alloc hsz o1).grown r1 (by simp; omega) (fun k e => (h1.lt k e).1)
    have b2 : Below B W w2 := (b1.alloc (by omega) o2).grown r2 (by simp; omega) (fun k e => (h2.lt k e).1)
    exact (b2.alloc (by omega) o3).grown r3 (by simp; omega) (fun k e => (h3.lt k e).1)

theorem cell_box (w0 : World) (cs : Array Value) (t : TypeId) (b i : Nat) (hb : w0.heap.size = b) : (w0.alloc (.cells cs t)).cell? ⟨b, i, none⟩ = cs[i]? := by
  subst hb
  have := heap_alloc_new w0 (.cells cs t)
  simp only [World.cell?, this]
  rfl
theorem stk_aps {B : Nat} {W : World} {v1 v2 v3 : Value} {st : List Fr} (hS : Stk B W v1 v2 v3 st) :
    (v2.ownBlock = none ∨ v2.ownBlock ≠ v1.ownBlock) ∧ (v3.ownBlock = none ∨ v3.ownBlock ≠ v1.ownBlock) ∧ (v3.ownBlock = none ∨ v3.ownBlock ≠ v2.ownBlock) := by
  obtain ⟨h1, h2, h3, hap⟩ := hS
  refine ⟨?_, ?_, ?_⟩
  · cases hv : v1.ownBlock with
    | none => cases hv2 : v2.ownBlock <;> simp
    | some y => exact .inr (hap y hv)
  · cases hv : v1.ownBlock with
    | none => cases hv2 : v3.ownBlock <;> simp
    | some y => exact .inr (owns_apart h1 h3 (by decide) hv)
  · cases hv : v2.ownBlock with
    | none => cases hv2 : v3.ownBlock <;> simp
    | some y => exact .inr (owns_apart h2 h3 (by decide) hv)
theorem owns_not_block {w : World} {B e size n b t : Nat} {v : Value} {xs : List Value} (h : w.ownsRow B e size v n xs) (hb : ∃ cs, w.heap[b]? = some (.cells cs t (0, 0))) (hne : e ≠ t) : v.ownBlock ≠ some b := by
  intro hv
  obtain ⟨cs, hb⟩ := hb
  rcases h.2 with ⟨rfl, _⟩ | ⟨g1, c1, cur1, rfl, _, hg1, _⟩
  · simp [Value.ownBlock] at hv
  simp only [Value.ownBlock, Option.some.injEq] at hv
  subst hv
  rw [hg1] at hb
  simp at hb
  exact hne hb.2

set_option maxRecDepth 20000 in
set_option maxHeartbeats 4000000 in
theorem wf_some (b off len cap : Nat) (S : Nat → Pl) (w : World) (hm : len ≤ 16384) (hb : b < w.heap.size) (hc : ∀ i, i < len → At w b (off + i * 11) (S i)) :
    Calls Try.prog 7 #[.slice (some ⟨b, off, none⟩) len cap] w fun e w' => WfEnd S len e ∧ Below w.heap.size w w' := by
  obtain ⟨i4, q40, q41, q42, q43⟩ := info_parts info4
  obtain ⟨i3, q30, q31, q32, q33⟩ := info_parts info3
  go_enter Try.func7, Try.ntmps7
  go_wp2
  go_loopw [3, 4, 5, 6] (fun s3 s4 s5 i wr => ∃ (k : Nat) (st : List Fr), k ≤ len ∧ i = .int .i64 k ∧ wfTo S k = some st ∧ Stk w.heap.size wr s3 s4 s5 st ∧ Below w.heap.size w wr) (fun _ _ _ i _ => len - (intOf i).toNat)
  case atStart => exact ⟨0, [], Nat.zero_le _, rfl, rfl, ⟨World.ownsRow_nil _ _ _ _, World.ownsRow_nil _ _ _ _, World.ownsRow_nil _ _ _ _, fun g h => by cases h⟩, Below.refl _ _⟩
  case round =>
    obtain ⟨k, st, hk, rfl, hst, hS, hbl⟩ := hrel
    have hl := wfTo_len hst
    by_cases hlt : k < len
    · have hat : At wr b (off + k * 11) (S k) := by
        obtain ⟨a0, a1, a2, a3, a4, a5, a6, a7, a8, a9, a10⟩ := hc k hlt
        exact ⟨(hbl.cell (by exact hb)).trans a0, (hbl.cell (by exact hb)).trans a1, (hbl.cell (by exact hb)).trans a2, (hbl.cell (by exact hb)).trans a3, (hbl.cell (by exact hb)).trans a4, (hbl.cell (by exact hb)).trans a5, (hbl.cell (by exact hb)).trans a6, (hbl.cell (by exact hb)).trans a7, (hbl.cell (by exact hb)).trans a8, (hbl.cell (by exact hb)).trans a9, (hbl.cell (by exact hb)).trans a10⟩
      clear hc
      obtain ⟨a0, a1, a2, a3, a4, a5, a6, a7, a8, a9, a10⟩ := hat
      have hstep : wfTo S (k + 1) = wfStep st (S k) := by simp [wfTo, hst]
      generalize S k = p at *
      have HW : Hid (wfTo S (k + 1) = wfStep st p) := hstep
      have HS : Hid (Stk w.heap.size wr u3 u4 u5 st) := hS
      have HB : Hid (Below w.heap.size w wr) := hbl
      have hsz : w.heap.size ≤ wr.heap.size := hbl.size
      have f1 := owns_form hS.1
      have f2 := owns_form hS.2.1
      have f3 := owns_form hS.2.2.1
      clear hst hstep hS hbl
      have hlen5 : ∃ ao c, u5 = .slice ao st.length c := by
        rcases f3 with ⟨rfl, h0⟩ | ⟨g, c, rfl⟩
        · exact ⟨none, 0, by rw [h0]⟩
        · exact ⟨_, c, rfl⟩
      by_cases d0 : p.depth < 0
      · obtain ⟨ao, c, rfl⟩ := hlen5
        clear f1 f2 f3
        go_wp2
        go_ret
        exact ⟨wfEnd_false _ _, HB.out.alloc hsz _⟩
      by_cases d1 : (st.length : Int) < p.depth
      · obtain ⟨ao, c, rfl⟩ := hlen5
        clear f1 f2 f3
        go_wp2
        go_ret
        exact ⟨wfEnd_false _ _, HB.out.alloc hsz _⟩
      by_cases dz : p.depth = 0
      · rw [dz] at a0
        obtain ⟨ao, c5, rfl⟩ := hlen5
        obtain ⟨x1, sl1, e1⟩ := cut0_37 f1
        obtain ⟨x2, sl2, e2⟩ := cut0_37 f2
        obtain ⟨x3, sl3, e3⟩ := cut0_38 f3
        have HZ : Hid (∀ o, Stk w.heap.size (wr.alloc o) x1 x2 x3 []) := fun o => stk_zero HS.out o e1 e2 e3
        clear f1 f2 f3 e1 e2 e3
        cases he : p.entry with
        | true =>
          rw [he] at a1
          go_wp2
          go_ret
          exact ⟨wfEnd_false _ _, HB.out.alloc hsz _⟩
        | false =>
          rw [he] at a1
          cases hi : p.inHead with
          | true =>
            rw [hi] at a2
            go_wp2
            go_ret
            exact ⟨wfEnd_false _ _, HB.out.alloc hsz _⟩
          | false =>
            rw [hi] at a2
            have hpre := wfPre_zero (st := st) dz he hi
            have HW2 : Hid (wfTo S (k + 1) = some ([] ++ [p.fr])) := by
              show _ = _
              rw [HW.out, wfStep, hpre]; rfl
            clear he hi dz d0 d1 hpre HW
            go_upto_region 29 with fail
            obtain ⟨W, hW⟩ : ∃ W, wr.alloc (.cells #[.int .i64 0, .bool false, .bool false, .bool p.block, .bool p.headBlock, .string p.hd, .string p.key, .string p.dt, .string p.kind, .string p.raw, .string p.text] 33) = W := ⟨_, rfl⟩
            rw [hW]
            have hx3 : W.cell? ⟨wr.heap.size, 3, none⟩ = some (.bool p.block) := by rw [← hW]; simp
            have hx4 : W.cell? ⟨wr.heap.size, 4, none⟩ = some (.bool p.headBlock) := by rw [← hW]; simp
            have hxs : wr.heap.size < W.heap.size := by rw [← hW]; simp
            have hbx : ∃ cs, W.heap[wr.heap.size]? = some (.cells cs 33 (0, 0)) := ⟨_, by rw [← hW]; exact heap_alloc_new wr _⟩
            obtain ⟨st2, HK⟩ : ∃ st2, Hid (wfTo S (k + 1) = some (st2 ++ [p.fr]) ∧ Stk w.heap.size W x1 x2 x3 st2 ∧ Below w.heap.size w W ∧ st2.length ≤ k) :=
              ⟨[], HW2.out, by rw [← hW]; exact HZ.out _, by rw [← hW]; exact HB.out.alloc hsz _, Nat.zero_le _⟩
            clear hW HZ HW2 HS HB sl1 sl2 sl3 a0 a1 a2 a3 a4 a5 a6 a7 a8 a9 a10
            obtain ⟨h1, h2, h3, hap⟩ := HK.out.2.1
            have hl2 := HK.out.2.2.2
            have hsW : w.heap.size ≤ W.heap.size := HK.out.2.2.1.size
            obtain ⟨ap12, ap13, ap23⟩ := stk_aps HK.out.2.1
            have nb1 := owns_not_block h1 hbx (by decide)
            have nb1' : some wr.heap.size ≠ x1.ownBlock := fun e => nb1 e.symm
            clear hap nb1 hbx
            go_wp2_with (first
              | (at_builtin; refine wpList_append_lies _ rfl (.tmp 83) (.tmp 86) 37 rfl w.heap.size 4 i4 (.bool false) 1 1 Try.underlying37 q40 q41 q42 q43 rfl (by decide) x1 st2.length _ rfl (h1.alloc _) ⟨_, 0, none⟩ 1 1 [.bool p.block] rfl rfl (cell_one_new _ _ _) (by simp [Value.oneCell']) (by decide) (by unfold maxLen; omega) (by omega) (by simp; omega) _ rfl ?_; intro g1 c1 w1 p1 r1 t1 k1; have h2' := (h2.alloc (.cells #[.bool p.block] 4)).kept r1 ap12; have h3' := (h3.alloc (.cells #[.bool p.block] 4)).kept r1 ap13; have hx4' := (r1.cell_far ⟨wr.heap.size, 4, none⟩ (by simp; omega) nb1').trans ((World.cell?_alloc_past _ _ _ hxs).trans hx4); have s1 := r1.size; simp only [World.size_alloc] at s1)
              | (at_builtin; refine wpList_append_lies _ rfl (.tmp 88) (.tmp 91) 37 rfl w.heap.size 4 i4 (.bool false) 1 1 Try.underlying37 q40 q41 q42 q43 rfl (by decide) x2 st2.length _ rfl (h2'.alloc _) ⟨_, 0, none⟩ 1 1 [.bool p.headBlock] rfl rfl (cell_one_new _ _ _) (by simp [Value.oneCell']) (by decide) (by unfold maxLen; omega) (by omega) (by simp; omega) _ rfl ?_; intro g2 c2 w2 p2 r2 t2 k2; have h3'' := (h3'.alloc (.cells #[.bool p.headBlock] 4)).kept r2 ap23; have s2 := r2.size; simp only [World.size_alloc] at s2)
              | (at_builtin; refine wpList_append_lies _ rfl (.tmp 93) (.tmp 94) 38 rfl w.heap.size 3 i3 (.int .i64 0) 1 8 Try.underlying38 q30 q31 q32 q33 rfl (by decide) x3 st2.length _ rfl (h3''.alloc _) ⟨_, 0, none⟩ 1 1 [.int .i64 (-1)] rfl rfl (cell_one_new _ _ _) (by simp [Value.oneCell']) (by decide) (by unfold maxLen; omega) (by omega) (by simp; omega) _ rfl ?_; intro g3 c3 w3 p3 r3 t3 k3))
            obtain ⟨hS3, hB3⟩ := stk_push p.fr HK.out.2.1 hsW p1 r1 t1 p2 r2 t2 p3 r3
            go_roundw
            case rel => exact ⟨k + 1, st2 ++ [p.fr], by omega, by go_num, HK.out.1, by simpa using hS3, HK.out.2.2.1.trans hB3⟩
            case measure => simp [intOf]; omega
      · obtain ⟨h, hd⟩ : ∃ h : Nat, p.depth = (h : Int) + 1 := ⟨(p.depth - 1).toNat, by omega⟩
        have hhl : h < st.length := by omega
        obtain ⟨f, hf⟩ : ∃ f, st[h]? = some f := ⟨_, List.getElem?_eq_getElem hhl⟩
        rcases f1 with ⟨_, h0⟩ | ⟨g1', c1', rfl⟩
        · omega
        rcases f2 with ⟨_, h0⟩ | ⟨g2', c2', rfl⟩
        · omega
        rcases f3 with ⟨_, h0⟩ | ⟨g3', c3', rfl⟩
        · omega
        have n1 := owns_cap HS.out.1
        have n2 := owns_cap HS.out.2.1
        have n3 := owns_cap HS.out.2.2.1
        have hc2 : wr.cell? ⟨g2', h, none⟩ = some (.bool f.hd) := by rw [HS.out.2.1.cellAt h (by omega)]; simp [hf]
        have hc1 : wr.cell? ⟨g1', h, none⟩ = some (.bool f.blk) := by rw [HS.out.1.cellAt h (by omega)]; simp [hf]
        have hc3 : wr.cell? ⟨g3', h, none⟩ = some (.int .i64 f.last) := by rw [HS.out.2.2.1.cellAt h (by omega)]; simp [hf]
        have hfz : wr.frozen? ⟨g3', h, none⟩ = false := HS.out.2.2.1.frozenAt h
        have HC : Hid (∀ o, Stk w.heap.size ((wr.setCell ⟨g3', h, none⟩ (.int .i64 p.cls)).alloc o) (.slice (some ⟨g1', 0, none⟩) (h + 1) c1') (.slice (some ⟨g2', 0, none⟩) (h + 1) c2') (.slice (some ⟨g3', 0, none⟩) (h + 1) c3') (st.take h ++ [⟨f.blk, f.hd, p.cls⟩])) :=
          fun o => stk_cut HS.out hf p.cls o
        have HP : Hid (okAt f p = true → f.last ≤ p.cls → wfPre st p = some (st.take h ++ [⟨f.blk, f.hd, p.cls⟩])) := fun x y => wfPre_succ hd hf x y
        have hzz : ((h : Int) + 1 == 0) = false := by simp; omega
        rw [hd] at a0
        obtain ⟨l1, l2, l3, l4⟩ := n1
        obtain ⟨l1', l2', l3', l4'⟩ := n2
        obtain ⟨l1'', l2'', l3'', l4''⟩ := n3
        unfold maxLen at l2 l2' l2''
        clear hd dz d0 d1 hf hlen5
        cases hi : p.inHead with
        | true =>
          rw [hi] at a2
          cases he : p.entry with
          | false =>
            rw [he] at a1
            go_wp2
            go_ret
            exact ⟨wfEnd_false _ _, HB.out.alloc hsz _⟩
          | true =>
            rw [he] at a1
            cases hh : f.hd with
            | false =>
              rw [hh] at hc2
              go_wp2
              go_ret
              exact ⟨wfEnd_false _ _, HB.out.alloc hsz _⟩
            | true =>
              rw [hh] at hc2
              have hcl : p.cls = 0 := by simp [Pl.cls, hi]
              have hok : okAt f p = true := by simp [okAt, hi, he, hh]
              by_cases hla : 0 < f.last
              · clear hcl hok
                go_wp2
                go_ret
                exact ⟨wfEnd_false _ _, HB.out.alloc hsz _⟩
              · have hcl' : Hid (p.cls = 0) := hcl
                have hok' : Hid (okAt f p = true) := hok
                clear hcl hok 
                go_upto_region 29 with fail
                obtain ⟨W, hW⟩ : ∃ W, (wr.setCell ⟨g3', h, none⟩ (.int .i64 0)).alloc (.cells #[.int .i64 ((h : Int) + 1), .bool true, .bool true, .bool p.block, .bool p.headBlock, .string p.hd, .string p.key, .string p.dt, .string p.kind, .string p.raw, .string p.text] 33) = W := ⟨_, rfl⟩
                rw [hW]
                have hx3 : W.cell? ⟨wr.heap.size, 3, none⟩ = some (.bool p.block) := by rw [← hW, cell_box _ _ _ _ _ (by simp [World.setCell])]; rfl
                have hx4 : W.cell? ⟨wr.heap.size, 4, none⟩ = some (.bool p.headBlock) := by rw [← hW, cell_box _ _ _ _ _ (by simp [World.setCell])]; rfl
                have hxs : wr.heap.size < W.heap.size := by rw [← hW]; simp [World.setCell]
                have hbx : ∃ cs, W.heap[wr.heap.size]? = some (.cells cs 33 (0, 0)) := ⟨_, by rw [← hW]; have := heap_alloc_new (wr.setCell ⟨g3', h, none⟩ (.int .i64 0)) (.cells #[.int .i64 ((h : Int) + 1), .bool true, .bool true, .bool p.block, .bool p.headBlock, .string p.hd, .string p.key, .string p.dt, .string p.kind, .string p.raw, .string p.text] 33); simpa [World.setCell] using this⟩
                obtain ⟨st2, HK⟩ : ∃ st2, Hid (wfTo S (k + 1) = some (st2 ++ [p.fr]) ∧ Stk w.heap.size W (Value.slice (some ⟨g1', 0, none⟩) (h + 1) c1') (Value.slice (some ⟨g2', 0, none⟩) (h + 1) c2') (Value.slice (some ⟨g3', 0, none⟩) (h + 1) c3') st2 ∧ Below w.heap.size w W ∧ st2.length ≤ k) :=
                  ⟨st.take h ++ [⟨f.blk, f.hd, p.cls⟩], by show wfTo S (k + 1) = _; rw [HW.out, wfStep, HP.out hok'.out (by rw [hcl'.out]; omega)]; rfl, by rw [← hW]; have := HC.out (.cells #[.int .i64 ((h : Int) + 1), .bool true, .bool true, .bool p.block, .bool p.headBlock, .string p.hd, .string p.key, .string p.dt, .string p.kind, .string p.raw, .string p.text] 33); rw [hcl'.out] at this ⊢; exact this, by rw [← hW]; exact (HB.out.setCell (p := ⟨g3', h, none⟩) (by exact l3'') _).alloc (by simp [World.setCell]; omega) _, by simp; omega⟩
                clear hW HC HP HW HS HB a0 a1 a2 a3 a4 a5 a6 a7 a8 a9 a10 hcl' hok' hc1 hc2 hc3 hfz
                obtain ⟨h1, h2, h3, hap⟩ := HK.out.2.1
                have hl2 := HK.out.2.2.2
                have hsW : w.heap.size ≤ W.heap.size := HK.out.2.2.1.size
                obtain ⟨ap12, ap13, ap23⟩ := stk_aps HK.out.2.1
                have nb1 := owns_not_block h1 hbx (by decide)
                have nb1' : some wr.heap.size ≠ (Value.slice (some ⟨g1', 0, none⟩) (h + 1) c1').ownBlock := fun e => nb1 e.symm
                clear hap nb1 hbx
                go_wp2_with (first
                  | (at_builtin; refine wpList_append_lies _ rfl (.tmp 83) (.tmp 86) 37 rfl w.heap.size 4 i4 (.bool false) 1 1 Try.underlying37 q40 q41 q42 q43 rfl (by decide) (Value.slice (some ⟨g1', 0, none⟩) (h + 1) c1') st2.length _ rfl (h1.alloc _) ⟨_, 0, none⟩ 1 1 [.bool p.block] rfl rfl (cell_one_new _ _ _) (by simp [Value.oneCell']) (by decide) (by unfold maxLen; omega) (by omega) (by simp; omega) _ rfl ?_; intro g1 c1 w1 p1 r1 t1 k1; have h2' := (h2.alloc (.cells #[.bool p.block] 4)).kept r1 ap12; have h3' := (h3.alloc (.cells #[.bool p.block] 4)).kept r1 ap13; have hx4' := (r1.cell_far ⟨wr.heap.size, 4, none⟩ (by simp; omega) nb1').trans ((World.cell?_alloc_past _ _ _ hxs).trans hx4); have s1 := r1.size; simp only [World.size_alloc] at s1)
                  | (at_builtin; refine wpList_append_lies _ rfl (.tmp 88) (.tmp 91) 37 rfl w.heap.size 4 i4 (.bool false) 1 1 Try.underlying37 q40 q41 q42 q43 rfl (by decide) (Value.slice (some ⟨g2', 0, none⟩) (h + 1) c2') st2.length _ rfl (h2'.alloc _) ⟨_, 0, none⟩ 1 1 [.bool p.headBlock] rfl rfl (cell_one_new _ _ _) (by simp [Value.oneCell']) (by decide) (by unfold maxLen; omega) (by omega) (by simp; omega) _ rfl ?_; intro g2 c2 w2 p2 r2 t2 k2; have h3'' := (h3'.alloc (.cells #[.bool p.headBlock] 4)).kept r2 ap23; have s2 := r2.size; simp only [World.size_alloc] at s2)
                  | (at_builtin; refine wpList_append_lies _ rfl (.tmp 93) (.tmp 94) 38 rfl w.heap.size 3 i3 (.int .i64 0) 1 8 Try.underlying38 q30 q31 q32 q33 rfl (by decide) (Value.slice (some ⟨g3', 0, none⟩) (h + 1) c3') st2.length _ rfl (h3''.alloc _) ⟨_, 0, none⟩ 1 1 [.int .i64 (-1)] rfl rfl (cell_one_new _ _ _) (by simp [Value.oneCell']) (by decide) (by unfold maxLen; omega) (by omega) (by simp; omega) _ rfl ?_; intro g3 c3 w3 p3 r3 t3 k3))
                obtain ⟨hS3, hB3⟩ := stk_push p.fr HK.out.2.1 hsW p1 r1 t1 p2 r2 t2 p3 r3
                go_roundw
                case rel => exact ⟨k + 1, st2 ++ [p.fr], by omega, by go_num, HK.out.1, by simpa using hS3, HK.out.2.2.1.trans hB3⟩
                case measure => simp [intOf]; omega
        | false =>
          rw [hi] at a2
          cases he : p.entry with
          | true =>
            rw [he] at a1
            cases hh : f.blk with
            | false =>
              rw [hh] at hc1
              go_wp2
              go_ret
              exact ⟨wfEnd_false _ _, HB.out.alloc hsz _⟩
            | true =>
              rw [hh] at hc1
              have hcl' : Hid (p.cls = 1) := by show _ = _; simp [Pl.cls, hi, he]
              have hok' : Hid (okAt f p = true) := by show _ = _; simp [okAt, hi, he, hh]
              by_cases hla : 1 < f.last
              · go_wp2
                go_ret
                exact ⟨wfEnd_false _ _, HB.out.alloc hsz _⟩
              · go_upto_region 29 with fail
                obtain ⟨W, hW⟩ : ∃ W, (wr.setCell ⟨g3', h, none⟩ (.int .i64 1)).alloc (.cells #[.int .i64 ((h : Int) + 1), .bool true, .bool false, .bool p.block, .bool p.headBlock, .string p.hd, .string p.key, .string p.dt, .string p.kind, .string p.raw, .string p.text] 33) = W := ⟨_, rfl⟩
                rw [hW]
                have hx3 : W.cell? ⟨wr.heap.size, 3, none⟩ = some (.bool p.block) := by rw [← hW, cell_box _ _ _ _ _ (by simp [World.setCell])]; rfl
                have hx4 : W.cell? ⟨wr.heap.size, 4, none⟩ = some (.bool p.headBlock) := by rw [← hW, cell_box _ _ _ _ _ (by simp [World.setCell])]; rfl
                have hxs : wr.heap.size < W.heap.size := by rw [← hW]; simp [World.setCell]
                have hbx : ∃ cs, W.heap[wr.heap.size]? = some (.cells cs 33 (0, 0)) := ⟨_, by rw [← hW]; have := heap_alloc_new (wr.setCell ⟨g3', h, none⟩ (.int .i64 1)) (.cells #[.int .i64 ((h : Int) + 1), .bool true, .bool false, .bool p.block, .bool p.headBlock, .string p.hd, .string p.key, .string p.dt, .string p.kind, .string p.raw, .string p.text] 33); simpa [World.setCell] using this⟩
                obtain ⟨st2, HK⟩ : ∃ st2, Hid (wfTo S (k + 1) = some (st2 ++ [p.fr]) ∧ Stk w.heap.size W (Value.slice (some ⟨g1', 0, none⟩) (h + 1) c1') (Value.slice (some ⟨g2', 0, none⟩) (h + 1) c2') (Value.slice (some ⟨g3', 0, none⟩) (h + 1) c3') st2 ∧ Below w.heap.size w W ∧ st2.length ≤ k) :=
                  ⟨st.take h ++ [⟨f.blk, f.hd, p.cls⟩], by show wfTo S (k + 1) = _; rw [HW.out, wfStep, HP.out hok'.out (by rw [hcl'.out]; omega)]; rfl, by rw [← hW]; have := HC.out (.cells #[.int .i64 ((h : Int) + 1), .bool true, .bool false, .bool p.block, .bool p.headBlock, .string p.hd, .string p.key, .string p.dt, .string p.kind, .string p.raw, .string p.text] 33); rw [hcl'.out] at this ⊢; exact this, by rw [← hW]; exact (HB.out.setCell (p := ⟨g3', h, none⟩) (by exact l3'') _).alloc (by simp [World.setCell]; omega) _, by simp; omega⟩
                clear hW HC HP HW HS HB a0 a1 a2 a3 a4 a5 a6 a7 a8 a9 a10 hcl' hok' hc1 hc2 hc3 hfz
                obtain ⟨h1, h2, h3, hap⟩ := HK.out.2.1
                have hl2 := HK.out.2.2.2
                have hsW : w.heap.size ≤ W.heap.size := HK.out.2.2.1.size
                obtain ⟨ap12, ap13, ap23⟩ := stk_aps HK.out.2.1
                have nb1 := owns_not_block h1 hbx (by decide)
                have nb1' : some wr.heap.size ≠ (Value.slice (some ⟨g1', 0, none⟩) (h + 1) c1').ownBlock := fun e => nb1 e.symm
                clear hap nb1 hbx
                go_wp2_with (first
                  | (at_builtin; refine wpList_append_lies _ rfl (.tmp 83) (.tmp 86) 37 rfl w.heap.size 4 i4 (.bool false) 1 1 Try.underlying37 q40 q41 q42 q43 rfl (by decide) (Value.slice (some ⟨g1', 0, none⟩) (h + 1) c1') st2.length _ rfl (h1.alloc _) ⟨_, 0, none⟩ 1 1 [.bool p.block] rfl rfl (cell_one_new _ _ _) (by simp [Value.oneCell']) (by decide) (by unfold maxLen; omega) (by omega) (by simp; omega) _ rfl ?_; intro g1 c1 w1 p1 r1 t1 k1; have h2' := (h2.alloc (.cells #[.bool p.block] 4)).kept r1 ap12; have h3' := (h3.alloc (.cells #[.bool p.block] 4)).kept r1 ap13; have hx4' := (r1.cell_far ⟨wr.heap.size, 4, none⟩ (by simp; omega) nb1').trans ((World.cell?_alloc_past _ _ _ hxs).trans hx4); have s1 := r1.size; simp only [World.size_alloc] at s1)
                  | (at_builtin; refine wpList_append_lies _ rfl (.tmp 88) (.tmp 91) 37 rfl w.heap.size 4 i4 (.bool false) 1 1 Try.underlying37 q40 q41 q42 q43 rfl (by decide) (Value.slice (some ⟨g2', 0, none⟩) (h + 1) c2') st2.length _ rfl (h2'.alloc _) ⟨_, 0, none⟩ 1 1 [.bool p.headBlock] rfl rfl (cell_one_new _ _ _) (by simp [Value.oneCell']) (by decide) (by unfold maxLen; omega) (by omega) (by simp; omega) _ rfl ?_; intro g2 c2 w2 p2 r2 t2 k2; have h3'' := (h3'.alloc (.cells #[.bool p.headBlock] 4)).kept r2 ap23; have s2 := r2.size; simp only [World.size_alloc] at s2)
                  | (at_builtin; refine wpList_append_lies _ rfl (.tmp 93) (.tmp 94) 38 rfl w.heap.size 3 i3 (.int .i64 0) 1 8 Try.underlying38 q30 q31 q32 q33 rfl (by decide) (Value.slice (some ⟨g3', 0, none⟩) (h + 1) c3') st2.length _ rfl (h3''.alloc _) ⟨_, 0, none⟩ 1 1 [.int .i64 (-1)] rfl rfl (cell_one_new _ _ _) (by simp [Value.oneCell']) (by decide) (by unfold maxLen; omega) (by omega) (by simp; omega) _ rfl ?_; intro g3 c3 w3 p3 r3 t3 k3))
                obtain ⟨hS3, hB3⟩ := stk_push p.fr HK.out.2.1 hsW p1 r1 t1 p2 r2 t2 p3 r3
                go_roundw
                case rel => exact ⟨k + 1, st2 ++ [p.fr], by omega, by go_num, HK.out.1, by simpa using hS3, HK.out.2.2.1.trans hB3⟩
                case measure => simp [intOf]; omega
          | false =>
            rw [he] at a1
            have hcl' : Hid (p.cls = 2) := by show _ = _; simp [Pl.cls, hi, he]
            have hok' : Hid (okAt f p = true) := by show _ = _; simp [okAt, hi, he]
            by_cases hla : 2 < f.last
            · go_wp2
              go_ret
              exact ⟨wfEnd_false _ _, HB.out.alloc hsz _⟩
            · go_upto_region 29 with fail
              obtain ⟨W, hW⟩ : ∃ W, (wr.setCell ⟨g3', h, none⟩ (.int .i64 2)).alloc (.cells #[.int .i64 ((h : Int) + 1), .bool false, .bool false, .bool p.block, .bool p.headBlock, .string p.hd, .string p.key, .string p.dt, .string p.kind, .string p.raw, .string p.text] 33) = W := ⟨_, rfl⟩
              rw [hW]
              have hx3 : W.cell? ⟨wr.heap.size, 3, none⟩ = some (.bool p.block) := by rw [← hW, cell_box _ _ _ _ _ (by simp [World.setCell])]; rfl
              have hx4 : W.cell? ⟨wr.heap.size, 4, none⟩ = some (.bool p.headBlock) := by rw [← hW, cell_box _ _ _ _ _ (by simp [World.setCell])]; rfl
              have hxs : wr.heap.size < W.heap.size := by rw [← hW]; simp [World.setCell]
              have hbx : ∃ cs, W.heap[wr.heap.size]? = some (.cells cs 33 (0, 0)) := ⟨_, by rw [← hW]; have := heap_alloc_new (wr.setCell ⟨g3', h, none⟩ (.int .i64 2)) (.cells #[.int .i64 ((h : Int) + 1), .bool false, .bool false, .bool p.block, .bool p.headBlock, .string p.hd, .string p.key, .string p.dt, .string p.kind, .string p.raw, .string p.text] 33); simpa [World.setCell] using this⟩
              obtain ⟨st2, HK⟩ : ∃ st2, Hid (wfTo S (k + 1) = some (st2 ++ [p.fr]) ∧ Stk w.heap.size W (Value.slice (some ⟨g1', 0, none⟩) (h + 1) c1') (Value.slice (some ⟨g2', 0, none⟩) (h + 1) c2') (Value.slice (some ⟨g3', 0, none⟩) (h + 1) c3') st2 ∧ Below w.heap.size w W ∧ st2.length ≤ k) :=
                ⟨st.take h ++ [⟨f.blk, f.hd, p.cls⟩], by show wfTo S (k + 1) = _; rw [HW.out, wfStep, HP.out hok'.out (by rw [hcl'.out]; omega)]; rfl, by rw [← hW]; have := HC.out (.cells #[.int .i64 ((h : Int) + 1), .bool false, .bool false, .bool p.block, .bool p.headBlock, .string p.hd, .string p.key, .string p.dt, .string p.kind, .string p.raw, .string p.text] 33); rw [hcl'.out] at this ⊢; exact this, by rw [← hW]; exact (HB.out.setCell (p := ⟨g3', h, none⟩) (by exact l3'') _).alloc (by simp [World.setCell]; omega) _, by simp; omega⟩
              clear hW HC HP HW HS HB a0 a1 a2 a3 a4 a5 a6 a7 a8 a9 a10 hcl' hok' hc1 hc2 hc3 hfz
              obtain ⟨h1, h2, h3, hap⟩ := HK.out.2.1
              have hl2 := HK.out.2.2.2
              have hsW : w.heap.size ≤ W.heap.size := HK.out.2.2.1.size
              obtain ⟨ap12, ap13, ap23⟩ := stk_aps HK.out.2.1
              have nb1 := owns_not_block h1 hbx (by decide)
              have nb1' : some wr.heap.size ≠ (Value.slice (some ⟨g1', 0, none⟩) (h + 1) c1').ownBlock := fun e => nb1 e.symm
              clear hap nb1 hbx
              go_wp2_with (first
                | (at_builtin; refine wpList_append_lies _ rfl (.tmp 83) (.tmp 86) 37 rfl w.heap.size 4 i4 (.bool false) 1 1 Try.underlying37 q40 q41 q42 q43 rfl (by decide) (Value.slice (some ⟨g1', 0, none⟩) (h + 1) c1') st2.length _ rfl (h1.alloc _) ⟨_, 0, none⟩ 1 1 [.bool p.block] rfl rfl (cell_one_new _ _ _) (by simp [Value.oneCell']) (by decide) (by unfold maxLen; omega) (by omega) (by simp; omega) _ rfl ?_; intro g1 c1 w1 p1 r1 t1 k1; have h2' := (h2.alloc (.cells #[.bool p.block] 4)).kept r1 ap12; have h3' := (h3.alloc (.cells #[.bool p.block] 4)).kept r1 ap13; have hx4' := (r1.cell_far ⟨wr.heap.size, 4, none⟩ (by simp; omega) nb1').trans ((World.cell?_alloc_past _ _ _ hxs).trans hx4); have s1 := r1.size; simp only [World.size_alloc] at s1)
                | (at_builtin; refine wpList_append_lies _ rfl (.tmp 88) (.tmp 91) 37 rfl w.heap.size 4 i4 (.bool false) 1 1 Try.underlying37 q40 q41 q42 q43 rfl (by decide) (Value.slice (some ⟨g2', 0, none⟩) (h + 1) c2') st2.length _ rfl (h2'.alloc _) ⟨_, 0, none⟩ 1 1 [.bool p.headBlock] rfl rfl (cell_one_new _ _ _) (by simp [Value.oneCell']) (by decide) (by unfold maxLen; omega) (by omega) (by simp; omega) _ rfl ?_; intro g2 c2 w2 p2 r2 t2 k2; have h3'' := (h3'.alloc (.cells #[.bool p.headBlock] 4)).kept r2 ap23; have s2 := r2.size; simp only [World.size_alloc] at s2)
                | (at_builtin; refine wpList_append_lies _ rfl (.tmp 93) (.tmp 94) 38 rfl w.heap.size 3 i3 (.int .i64 0) 1 8 Try.underlying38 q30 q31 q32 q33 rfl (by decide) (Value.slice (some ⟨g3', 0, none⟩) (h + 1) c3') st2.length _ rfl (h3''.alloc _) ⟨_, 0, none⟩ 1 1 [.int .i64 (-1)] rfl rfl (cell_one_new _ _ _) (by simp [Value.oneCell']) (by decide) (by unfold maxLen; omega) (by omega) (by simp; omega) _ rfl ?_; intro g3 c3 w3 p3 r3 t3 k3))
              obtain ⟨hS3, hB3⟩ := stk_push p.fr HK.out.2.1 hsW p1 r1 t1 p2 r2 t2 p3 r3
              go_roundw
              case rel => exact ⟨k + 1, st2 ++ [p.fr], by omega, by go_num, HK.out.1, by simpa using hS3, HK.out.2.2.1.trans hB3⟩
              case measure => simp [intOf]; omega
    · go_wp2
      go_ret
      obtain rfl : k = len := by omega
      exact ⟨wfEnd_true hst, hbl⟩
end Go.Proofs.Qxb6609332a
