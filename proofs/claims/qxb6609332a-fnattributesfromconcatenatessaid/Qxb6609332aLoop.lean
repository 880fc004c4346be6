/-
  Seat b6609332a: the range over slices.Values in AttributesFrom: the loop's law, round by round.
-/
import Derived.Test.Qxb6609332aIter
import Derived.RangeFuncNested
namespace Go.Proofs.Qxb6609332a
open Go.RowKit

/-- Every block of cells is as it was. -/
def SameCells (W W' : World) : Prop := W.heap.size ≤ W'.heap.size ∧ ∀ (b : Nat) (o : Obj), W.heap[b]? = some o → o.isCells = true → W'.heap[b]? = some o
theorem SameCells.alloc (W : World) (o : Obj) : SameCells W (W.alloc o) := ⟨by simp, fun b o' h _ => (Below.heap_alloc _ _ _ (lt_of_heap' h)).trans h⟩
where lt_of_heap' {w : World} {b : Nat} {o : Obj} (h : w.heap[b]? = some o) : b < w.heap.size := (Array.getElem?_eq_some_iff.1 h).1
theorem SameCells.putObj {W : World} {l : Nat} {o o' : Obj} (h : W.heap[l]? = some o) (hc : o.isCells = false) : SameCells W (W.putObj l o') := by
  refine ⟨by simp [World.putObj], fun b x hx hxc => ?_⟩
  by_cases e : b = l
  · subst e
    rw [h] at hx
    cases hx
    rw [hc] at hxc
    cases hxc
  · exact (World.putObj_heap_other e).trans hx

def Pl.arr (p : Pl) : Array Value := #[.int .i64 p.depth, .bool p.entry, .bool p.inHead, .bool p.block, .bool p.headBlock, .string p.hd, .string p.key, .string p.dt, .string p.kind, .string p.raw, .string p.text, .pointer none]

/-- How the body of a round ends. -/
def RoundEnd (I : Nat → World → Prop) (B N0 k : Nat) (W : World) : Exit → Act → World → Prop
  | .normal, _, W' => I (k + 1) W' ∧ KeepsFrom B W W' ∧ Below N0 W W'
  | _, _, _ => False

theorem below_putObj {N0 l : Nat} {A W : World} {o : Obj} (h : Below N0 A W) (hl : N0 ≤ l) (hs : N0 ≤ W.heap.size) : Below N0 A (W.putObj l o) := h.trans ((Below.refl N0 W).grown (grownBy_putObj' W l o) hs (fun k e => by cases e; omega))

theorem lt_of_loop {W : World} {l : Nat} {o : Obj} (h : W.heap[l]? = some o) : l < W.heap.size := (Array.getElem?_eq_some_iff.1 h).1
theorem loop_law {G : Operand} {assign body : Code} {Q : Exit → Act → World → Prop} {a : Act} {w : World} {m Bs g len N0 : Nat} {S : Nat → Pl}
    (hg : a.eval G = .func (.func 17) #[] #[.pointer (some ⟨Bs, 0, none⟩)]) (hlen : len ≤ 40000) (hgN : g < N0) (hN : N0 ≤ w.heap.size)
    (hBs : w.cell? ⟨Bs, 0, none⟩ = some (.slice (some ⟨g, 0, none⟩) len len)) (hBlt : Bs < w.heap.size) (hP : PRow w g len len S)
    (I : Nat → World → Prop) (hI : ∀ k W W', I k W → SameCells W W' → Below N0 W W' → I k W') (h0 : I 0 w)
    (hassign : ∀ (l k : Nat) (W : World) (K : Act → World → Prop), K { tmps := (a.tmps.setIfInBounds 12 (S k).agg).setIfInBounds 5 (.pointer (some ⟨W.heap.size, 0, none⟩)), defers := [] } (W.alloc (.cells (S k).arr 48)) →
      assign.wpIn (Fence.wide.inRound l) m Try.prog (Exit.then K (fun _ _ _ => False)) { tmps := a.tmps.setIfInBounds 12 (S k).agg, defers := [] } W)
    (hbody : ∀ (l k bp : Nat) (W : World), k < len → I k W → W.heap[bp]? = some (.cells (S k).arr 48 (0, 0)) → w.heap.size ≤ bp → w.heap.size ≤ l → (∃ r, W.heap[l]? = some (.loop r)) →
      body.wpIn (Fence.wide.inRound l) m Try.prog (RoundEnd I w.heap.size N0 k W) { tmps := (a.tmps.setIfInBounds 12 (S k).agg).setIfInBounds 5 (.pointer (some ⟨bp, 0, none⟩)), defers := [] } W)
    (hdone : ∀ (D : Nat) (W : World), w.heap.size ≤ D → I len W → W.heap[D]? = some (.deferred (some [])) → Q .normal { a with defers := { target := .collected D, args := #[] } :: a.defers } W) :
    (Code.rangeFunc G #[12] assign body).wpIn Fence.wide (m + 2) Try.prog Q a w := by
  refine wpIn_rangeFunc ?_
  intro fn hfn
  obtain ⟨rec, hrec⟩ : ∃ rec : LoopState → Option Code → Loop, rec = fun st pe => { state := st, pending := pe, fn, tmps := a.tmps, params := #[12], assign, body, defers := w.heap.size } := ⟨_, rfl⟩
  obtain ⟨W1, hW1⟩ : ∃ W1, (w.alloc (.deferred (some []))).alloc (.loop (rec .ready none)) = W1 := ⟨_, rfl⟩
  have hL1 : W1.heap[w.heap.size + 1]? = some (.loop (rec .ready none)) := by
    rw [← hW1]; have := World.alloc_heap_new (w.alloc (.deferred (some []))) (.loop (rec .ready none)); rwa [World.size_alloc] at this
  have hK1 : W1.heap[w.heap.size]? = some (.deferred (some [])) := by
    rw [← hW1]; exact (Below.heap_alloc _ _ _ (by simp)).trans (World.alloc_heap_new w _)
  have hI1 : I 0 W1 := by rw [← hW1]; exact hI _ _ _ (hI _ _ _ h0 (SameCells.alloc _ _) ((Below.refl _ _).alloc hN _)) (SameCells.alloc _ _) ((Below.refl _ _).alloc (by simp; omega) _)
  have hs1 : W1.heap.size = w.heap.size + 2 := by rw [← hW1]; simp
  have hcell1 : W1.cell? ⟨Bs, 0, none⟩ = some (.slice (some ⟨g, 0, none⟩) len len) := by
    rw [← hW1, ← hBs]
    have hb : Below w.heap.size w ((w.alloc (.deferred (some []))).alloc (.loop (rec .ready none))) := ((Below.refl _ w).alloc (Nat.le_refl _) _).alloc (by simp) _
    exact hb.cell (p := ⟨Bs, 0, none⟩) hBlt
  have hP1 : PRow W1 g len len S := by rw [← hW1]; exact pRow_alloc (pRow_alloc hP _) _
  refine ⟨w.heap.size + 1, [{ target := .collected w.heap.size, args := #[] }], W1, { target := .fn (.func 17) #[.pointer (some ⟨Bs, 0, none⟩)], args := #[.func (.yield (w.heap.size + 1)) #[] #[]] }, W1, 17,
    #[.func (.yield (w.heap.size + 1)) #[] #[]] ++ #[.pointer (some ⟨Bs, 0, none⟩)], W1, ?_, ?_, ?_, ?_, fun _ => by omega, ?_⟩
  · rw [← hW1, hrec]; exact run_enterLoop_outer _ _ _ _ _
  · simp only [resolve, hg]
    simp [go_sem]
  · intro f' _; trivial
  · simp [invoke, go_sem]
  · show CallsIn Fence.wide (m + 1) Try.prog 17 #[.func (.yield (w.heap.size + 1)) #[] #[], .pointer (some ⟨Bs, 0, none⟩)] W1 _
    refine (values17 (m + 1) (w.heap.size + 1) Bs g len N0 S hlen hgN
      (fun k W => I k W ∧ W.heap[w.heap.size + 1]? = some (.loop (rec .ready none)) ∧ W.heap[w.heap.size]? = some (.deferred (some [])))
      (fun k W o hJ => ⟨hI _ _ _ hJ.1 (SameCells.alloc _ _) ((Below.refl _ _).alloc (by have := lt_of_loop hJ.2.2; omega) _), (Below.heap_alloc _ _ _ (SameCells.alloc.lt_of_heap' hJ.2.1)).trans hJ.2.1, (Below.heap_alloc _ _ _ (SameCells.alloc.lt_of_heap' hJ.2.2)).trans hJ.2.2⟩)
      ?_ W1 hcell1 hP1 (by omega) ⟨hI1, hL1, hK1⟩).mono ?_
    · -- one round
      rintro k W hk ⟨hi, hl, hd⟩
      have hlt : w.heap.size + 1 < W.heap.size := (Array.getElem?_eq_some_iff.1 hl).1
      have hy := run_yield (P := Try.prog) (args := #[(S k).agg]) hl (by rw [hrec]; rfl)
      rw [hrec] at hy
      refine ⟨fn, _, assign, body, hy, roundIn_of_wpIn hfn ?_⟩
      clear hy
      have etm : (Array.foldl (fun tmps x => match x with | (t, a) => tmps.setIfInBounds t a) a.tmps ((#[12] : Array Tmp).zip #[(S k).agg])) = a.tmps.setIfInBounds 12 (S k).agg := by simp
      dsimp only
      rw [etm]
      refine hassign _ k W _ ?_
      have hl' : (W.alloc (.cells (S k).arr 48)).heap[w.heap.size + 1]? = some (.loop (rec .ready none)) := (Below.heap_alloc _ _ _ hlt).trans hl
      have hd' : (W.alloc (.cells (S k).arr 48)).heap[w.heap.size]? = some (.deferred (some [])) := (Below.heap_alloc _ _ _ (by omega)).trans hd
      have hbp : (W.alloc (.cells (S k).arr 48)).heap[W.heap.size]? = some (.cells (S k).arr 48 (0, 0)) := World.alloc_heap_new W _
      have hB' : Below N0 W (W.alloc (.cells (S k).arr 48)) := (Below.refl _ _).alloc (by omega) _
      have hi' := hI _ _ _ hi (SameCells.alloc W (.cells (S k).arr 48)) hB'
      have hlt' : w.heap.size + 1 < (W.alloc (.cells (S k).arr 48)).heap.size := by simp; omega
      have hbpl : w.heap.size ≤ W.heap.size := by omega
      have hbpne : W.heap.size ≠ w.heap.size + 1 := by omega
      generalize W.alloc (.cells (S k).arr 48) = X at *
      generalize W.heap.size = bp at *
      refine ⟨_, run_beginRound hl' (by rw [hrec]), ?_⟩
      have hl2 : (X.putObj (w.heap.size + 1) (.loop { rec .ready none with state := .busy })).heap[w.heap.size + 1]? = some (.loop { rec .ready none with state := .busy }) := World.putObj_heap_same hlt'
      have hd2 : (X.putObj (w.heap.size + 1) (.loop { rec .ready none with state := .busy })).heap[w.heap.size]? = some (.deferred (some [])) := (World.putObj_heap_other (by omega)).trans hd'
      refine wpIn_mono (hbody (w.heap.size + 1) k bp _ hk (hI _ _ _ hi' (SameCells.putObj hl' rfl) (below_putObj (Below.refl _ _) (by omega) (by omega))) ((World.putObj_heap_other hbpne).trans hbp) hbpl (by omega) ⟨_, hl2⟩) ?_
      rintro e a3 W3 hp
      cases e with
      | normal =>
        obtain ⟨hi3, hk3, hb3⟩ := hp
        have hl3 := hk3.same _ _ (by omega) hl2 rfl
        have hd3 := hk3.same _ _ (Nat.le_refl _) hd2 rfl
        have he := run_endRound (P := Try.prog) none hl3
        refine ⟨_, _, he, rfl, ⟨hI _ _ _ hi3 (SameCells.putObj hl3 rfl) (below_putObj (Below.refl _ _) (by omega) (by have := lt_of_loop hl3; omega)), ?_, (World.putObj_heap_other (by omega)).trans hd3⟩, ?_⟩
        · rw [World.putObj_heap_same (Array.getElem?_eq_some_iff.1 hl3).1, hrec]; rfl
        · exact below_putObj ((below_putObj hB' (by omega) (by omega)).trans hb3) (by omega) (by have := lt_of_loop hl3; omega)
      | ret => exact hp.elim
      | exit id => exact hp.elim
      | goto t => exact hp.elim
      | panic ch => exact hp.elim
      | outgrown => exact hp.elim
    · rintro e W2 ⟨⟨v, rfl⟩, hi, hl, hd⟩
      refine ⟨none, _, by have := run_endLoop (P := Try.prog) hl (by rw [hrec]; simp); rw [hrec] at this; exact this, ?_⟩
      exact hdone _ _ (Nat.le_refl _) (hI _ _ _ hi (SameCells.putObj hl rfl) (below_putObj (Below.refl _ _) (by omega) (by have := lt_of_loop hl; omega))) ((World.putObj_heap_other (by omega)).trans hd)
end Go.Proofs.Qxb6609332a
