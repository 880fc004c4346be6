/-
  Seat b6609201a: the plain law: over strings that rise, the index at which sort.Search parts them is the first of that name, if there is one. No Go in sight.
-/
import Derived.Test.Qxb6609201aWalkB
namespace Go.Proofs.Qxb6609201a

theorem bl_irrefl : ∀ x : List UInt8, Op.bytesLess x x = false
  | [] => rfl
  | a :: x => by
    have ih := bl_irrefl x
    simp [Op.bytesLess, ih]
theorem bl_trans : ∀ x y z : List UInt8, Op.bytesLess x y = true → Op.bytesLess y z = true → Op.bytesLess x z = true
  | _, _, [], _, h => by simp [Op.bytesLess] at h
  | _, [], _ :: _, h, _ => by simp [Op.bytesLess] at h
  | [], _ :: _, _ :: _, _, _ => rfl
  | a :: x, b :: y, c :: z, h, k => by
    have ih := bl_trans x y z
    simp only [Op.bytesLess, Bool.or_eq_true, Bool.and_eq_true, decide_eq_true_eq, beq_iff_eq] at h k ⊢
    simp only [UInt8.lt_iff_toNat_lt] at h k ⊢
    rcases h with h | ⟨rfl, h⟩ <;> rcases k with k | ⟨rfl, k⟩
    · left; omega
    · left; omega
    · left; omega
    · right; exact ⟨rfl, ih h k⟩
theorem bl_tri : ∀ x y : List UInt8, Op.bytesLess x y = false → Op.bytesLess y x = false → x = y
  | [], [], _, _ => rfl
  | [], _ :: _, h, _ => by simp [Op.bytesLess] at h
  | _ :: _, [], _, h => by simp [Op.bytesLess] at h
  | a :: x, b :: y, h, k => by
    have ih := bl_tri x y
    simp only [Op.bytesLess, Bool.or_eq_false_iff, Bool.and_eq_false_iff, decide_eq_false_iff_not, beq_eq_false_iff_ne] at h k
    simp only [UInt8.lt_iff_toNat_lt] at h k
    have hab : a = b := by
      have : a.toNat = b.toNat := by omega
      exact UInt8.toNat_inj.1 this
    subst hab
    rw [ih (h.2.resolve_left (fun e => e rfl)) (k.2.resolve_left (fun e => e rfl))]

theorem leS_refl (a : ByteArray) : leS a a = true := by simp [leS]
theorem leS_trans {a b c : ByteArray} (h : leS a b = true) (k : leS b c = true) : leS a c = true := by
  simp only [leS, Bool.or_eq_true, beq_iff_eq] at h k ⊢
  rcases h with h | h <;> rcases k with k | k
  · exact Or.inl (bl_trans _ _ _ h k)
  · exact Or.inl (k ▸ h)
  · exact Or.inl (h ▸ k)
  · exact Or.inr (h.trans k)
theorem rise {S : Nat → ByteArray} {n : Nat} (h : ∀ i, i + 1 < n → leS (S i) (S (i + 1)) = true) (i : Nat) : ∀ j, i ≤ j → j < n → leS (S i) (S j) = true := by
  intro j hij hj
  induction j with
  | zero => obtain rfl : i = 0 := by omega
            exact leS_refl _
  | succ j ih =>
    by_cases e : i = j + 1
    · subst e; exact leS_refl _
    · exact leS_trans (ih (by omega) (by omega)) (h j hj)
theorem eqS_iff {a b : ByteArray} : eqS a b = true ↔ a.toList = b.toList := by simp [eqS]
/-- Not below the name, and not above it: of that name. -/
theorem eq_of_ge_le {a b : ByteArray} (h : geS a b = true) (k : leS a b = true) : eqS a b = true := by
  simp only [geS, Bool.not_eq_true', leS, Bool.or_eq_true, beq_iff_eq] at h k
  rw [eqS_iff]
  rcases k with k | k
  · rw [h] at k; cases k
  · exact k
/-- Below the name: not above or of that name. -/
theorem not_le_of_lt {a b c : ByteArray} (h : geS b c = false) (e : eqS a c = true) : leS a b = true → False := by
  intro k
  rw [eqS_iff] at e
  simp only [geS, Bool.not_eq_false'] at h
  simp only [leS, Bool.or_eq_true, beq_iff_eq] at k
  rw [e] at k
  rcases k with k | k
  · have := bl_trans _ _ _ h k
    rw [bl_irrefl] at this; cases this
  · rw [← k, bl_irrefl] at h; cases h
theorem leS_of_eq {a b c : ByteArray} (h : leS a b = true) (e : eqS b c = true) : leS a c = true := by
  rw [eqS_iff] at e
  simpa [leS, e] using h
/-- Where a string i0 bears the name, the parting index stands at or before i0 and bears it too. -/
theorem parts_hit {S : Nat → ByteArray} {nm : ByteArray} {n r i0 : Nat} (hs : ∀ i, i + 1 < n → leS (S i) (S (i + 1)) = true) (hp : Parts S nm n r) (hi : i0 < n) (he : eqS (S i0) nm = true) :
    r ≤ i0 ∧ r < n ∧ eqS (S r) nm = true := by
  obtain ⟨hrn, h0, h1⟩ := hp
  have hle : r ≤ i0 := by
    rcases h0 with h0 | h0
    · omega
    · by_cases hc : r ≤ i0
      · exact hc
      · exact (not_le_of_lt h0 he (rise hs i0 (r - 1) (by omega) (by omega))).elim
  have h1' : geS (S r) nm = true := by
    rcases h1 with h1 | h1
    · omega
    · exact h1
  exact ⟨hle, by omega, eq_of_ge_le h1' (leS_of_eq (rise hs r i0 hle hi) he)⟩
/-- The one before the parting index does not bear the name. -/
theorem parts_before {S : Nat → ByteArray} {nm : ByteArray} {n r : Nat} (hp : Parts S nm n r) (h : 0 < r) : eqS (S (r - 1)) nm = false := by
  obtain ⟨_, h0, _⟩ := hp
  rcases h0 with h0 | h0
  · omega
  · cases he : eqS (S (r - 1)) nm with
    | false => rfl
    | true => exact (not_le_of_lt h0 he (leS_refl _)).elim
/-- The parting index is the first of the name. -/
theorem parts_first {S : Nat → ByteArray} {nm : ByteArray} {n r i0 : Nat} (hs : ∀ i, i + 1 < n → leS (S i) (S (i + 1)) = true) (hp : Parts S nm n r) (hi : i0 < n) (he : eqS (S i0) nm = true)
    (hb : ∀ j, j < i0 → eqS (S j) nm = false) : r = i0 := by
  have h := parts_hit hs hp hi he
  by_cases e : r = i0
  · exact e
  · have := hb r (by omega)
    rw [h.2.2] at this; cases this
end Go.Proofs.Qxb6609201a
