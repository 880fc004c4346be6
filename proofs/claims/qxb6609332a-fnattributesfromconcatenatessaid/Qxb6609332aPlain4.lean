/-
  Seat b6609332a: two walks one after the other; the roots. Plain.
-/
import Derived.Test.Qxb6609332aOpen
namespace Go.Proofs.Qxb6609332a
open Go.RowKit

def catPl (S S' : Nat → Pl) (n : Nat) : Nat → Pl := fun i => if i < n then S i else S' (i - n)
theorem cat_left {S S' : Nat → Pl} {n i : Nat} (h : i < n) : catPl S S' n i = S i := if_pos h
theorem cat_right {S S' : Nat → Pl} {n : Nat} (j : Nat) : catPl S S' n (n + j) = S' j := by
  unfold catPl
  rw [if_neg (by omega), Nat.add_sub_cancel_left]

theorem wf_congr {T S : Nat → Pl} : ∀ {k : Nat}, (∀ i, i < k → T i = S i) → wfTo T k = wfTo S k
  | 0, _ => rfl
  | k + 1, h => by
    unfold wfTo
    rw [wf_congr (k := k) (fun i hi => h i (by omega)), h k (by omega)]
theorem wf_tail {S S' : Nat → Pl} {n n' : Nat} {st : List Fr} (h : wfTo S n = some st) (h' : (wfTo S' n').isSome = true) : ∀ j, j + 1 ≤ n' → wfTo (catPl S S' n) (n + (j + 1)) = wfTo S' (j + 1) := by
  intro j
  induction j with
  | zero =>
    intro hj
    have e0 : wfTo (catPl S S' n) n = some st := by rw [wf_congr (fun i hi => cat_left hi)]; exact h
    have e1 : catPl S S' n n = S' 0 := cat_right 0
    obtain ⟨st2, hp, _⟩ := wf_next (k := 0) h' (by omega) rfl
    have hz : (S' 0).depth = 0 ∧ (S' 0).entry = false ∧ (S' 0).inHead = false := by
      rcases wfPre_cases hp with ⟨a, b, c, _⟩ | ⟨k, f, _, hf, _⟩
      · exact ⟨a, b, c⟩
      · simp at hf
    show wfTo (catPl S S' n) (n + 1) = wfTo S' 1
    unfold wfTo
    rw [e0, e1]
    simp only [wfTo, Option.bind_some, wfStep, wfPre_zero hz.1 hz.2.1 hz.2.2]
  | succ j ih =>
    intro hj
    show wfTo (catPl S S' n) ((n + (j + 1)) + 1) = wfTo S' ((j + 1) + 1)
    rw [wfTo, wfTo, ih (by omega), cat_right]
theorem wf_cat {S S' : Nat → Pl} {n n' : Nat} (h : (wfTo S n).isSome = true) (h' : (wfTo S' n').isSome = true) : (wfTo (catPl S S' n) (n + n')).isSome = true := by
  obtain ⟨st, hst⟩ := Option.isSome_iff_exists.1 h
  cases n' with
  | zero => rw [Nat.add_zero, wf_congr (fun i hi => cat_left hi)]; exact h
  | succ j => rw [wf_tail hst h' j (by omega)]; exact h'

theorem cat_map (S S' : Nat → Pl) (n n' : Nat) : (List.range (n + n')).map (catPl S S' n) = (List.range n).map S ++ (List.range n').map S' := by
  rw [List.range_add, List.map_append, List.map_map]
  congr 1
  · exact List.map_congr_left fun i hi => cat_left (by simpa using hi)
  · exact List.map_congr_left fun i _ => cat_right i

theorem deep_ord {Ch : Nat → List Nat} {S : Nat → Pl} {n : Nat} (hm : ∀ x, ∀ j ∈ Ch x, j < n ∧ x ≤ 3 * j ∧ Fits S x j) (hd : ∀ j, j < n → 0 ≤ (S j).depth) : ∀ (f x : Nat), x ≠ 0 → ∀ j ∈ ord Ch f x, ¬ (S j).depth = 0
  | 0, _, _, j, h => by simp [ord] at h
  | f + 1, x, hx, j, h => by
    simp only [ord, List.mem_flatMap] at h
    obtain ⟨i, hi, hj⟩ := h
    rcases List.mem_cons.1 hj with rfl | hj
    · obtain ⟨h1, h2, h3⟩ := hm x j hi
      unfold Fits at h3
      rw [if_neg hx] at h3
      have := hd ((x - 1) / 3) (by omega)
      have := h3.1
      omega
    · rcases List.mem_append.1 hj with hj | hj
      · exact deep_ord hm hd f _ (by omega) j hj
      · rcases List.mem_append.1 hj with hj | hj
        · exact deep_ord hm hd f _ (by omega) j hj
        · exact deep_ord hm hd f _ (by omega) j hj
theorem filter_none {l : List Nat} {q : Nat → Bool} (h : ∀ j ∈ l, q j = false) : l.filter q = [] := by
  rw [List.filter_eq_nil_iff]
  intro j hj e
  rw [h j hj] at e
  cases e
theorem filter_flat {q : Nat → Bool} {F : Nat → List Nat} : ∀ {l : List Nat}, (∀ j ∈ l, q j = true ∧ (F j).filter q = []) → (l.flatMap fun j => j :: F j).filter q = l
  | [], _ => rfl
  | j :: l, h => by
    have hj := h j (by simp)
    rw [List.flatMap_cons, List.filter_append, filter_flat (fun i hi => h i (by simp [hi])), List.filter_cons_of_pos hj.1, hj.2]
    rfl
/-- The roots: the places of depth 0, in order. -/
theorem roots_of {Ch : Nat → List Nat} {S : Nat → Pl} {n : Nat} {os : List Nat} {st : List Fr} (hC : Comb Ch S n os st) (hd : ∀ j, j < n → 0 ≤ (S j).depth) : (List.range n).filter (fun j => decide ((S j).depth = 0)) = Ch 0 := by
  rw [← hC.order]
  show ((Ch 0).flatMap fun j => j :: (ord Ch n (3 * j + 1) ++ (ord Ch n (3 * j + 2) ++ ord Ch n (3 * j + 3)))).filter _ = Ch 0
  refine filter_flat fun j hj => ⟨?_, filter_none fun i hi => ?_⟩
  · have hF := (hC.mem 0 j hj).2.2
    unfold Fits at hF
    rw [if_pos rfl] at hF
    exact decide_eq_true hF.1
  · refine decide_eq_false ?_
    rcases List.mem_append.1 hi with hi | hi
    · exact deep_ord hC.mem hd n _ (by omega) i hi
    · rcases List.mem_append.1 hi with hi | hi
      · exact deep_ord hC.mem hd n _ (by omega) i hi
      · exact deep_ord hC.mem hd n _ (by omega) i hi
/-- How many roots lie among the first m places. -/
def rootsTo (T : Nat → Pl) (m : Nat) : Nat := ((List.range m).filter (fun j => decide ((T j).depth = 0))).length
theorem rootsTo_succ (T : Nat → Pl) (m : Nat) : rootsTo T (m + 1) = if (T m).depth = 0 then rootsTo T m + 1 else rootsTo T m := by
  unfold rootsTo
  rw [List.range_succ, List.filter_append, List.length_append]
  by_cases h : (T m).depth = 0
  · rw [if_pos h, List.filter_cons_of_pos (by simpa using h)]; simp
  · rw [if_neg h, List.filter_cons_of_neg (by simpa using h)]; simp
theorem rootsTo_le (T : Nat → Pl) : ∀ m, rootsTo T m ≤ m
  | 0 => by simp [rootsTo]
  | m + 1 => by
    rw [rootsTo_succ]
    have := rootsTo_le T m
    split <;> omega
end Go.Proofs.Qxb6609332a
