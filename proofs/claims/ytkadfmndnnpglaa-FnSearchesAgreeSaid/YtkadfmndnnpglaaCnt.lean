/-
  Counting the places below n at which a test holds. Plain: no program is named here.
-/
import Derived.RowKit
namespace Go.Proofs.Ytkadfmndnnpglaa

/-- How many places below n have true. -/
def cnt (q : Nat → Bool) : Nat → Nat
  | 0 => 0
  | n + 1 => cnt q n + if q n then 1 else 0

theorem cnt_le (q : Nat → Bool) (n : Nat) : cnt q n ≤ n := by
  induction n with
  | zero => exact Nat.le_refl _
  | succ n ih => simp only [cnt]; split <;> omega

theorem cnt_mono (q : Nat → Bool) {k n : Nat} (h : k ≤ n) : cnt q k ≤ cnt q n := by
  induction n with
  | zero => obtain rfl : k = 0 := by omega
            exact Nat.le_refl _
  | succ n ih =>
    rcases Nat.lt_or_ge n k with hh | hh
    · obtain rfl : k = n + 1 := by omega
      exact Nat.le_refl _
    · have := ih hh
      simp only [cnt]; split <;> omega

theorem cnt_congr {p q : Nat → Bool} {n : Nat} (h : ∀ i, i < n → p i = q i) : cnt p n = cnt q n := by
  induction n with
  | zero => rfl
  | succ n ih => simp only [cnt]; rw [ih fun i hi => h i (by omega), h n (by omega)]

theorem cnt_all {q : Nat → Bool} {n : Nat} (h : ∀ i, i < n → q i = true) : cnt q n = n := by
  induction n with
  | zero => rfl
  | succ n ih => simp only [cnt]; rw [ih fun i hi => h i (by omega), h n (by omega)]; rfl

theorem cnt_none {q : Nat → Bool} {n : Nat} (h : ∀ i, i < n → q i = false) : cnt q n = 0 := by
  induction n with
  | zero => rfl
  | succ n ih => simp only [cnt]; rw [ih fun i hi => h i (by omega), h n (by omega)]; rfl

theorem cnt_pos {q : Nat → Bool} {n : Nat} : 0 < cnt q n ↔ ∃ i, i < n ∧ q i = true := by
  induction n with
  | zero => simp [cnt]
  | succ n ih =>
    simp only [cnt]
    constructor
    · intro h
      cases hq : q n with
      | true => exact ⟨n, by omega, hq⟩
      | false =>
        rw [hq] at h
        obtain ⟨i, hi, hqi⟩ := ih.1 (by simpa using h)
        exact ⟨i, by omega, hqi⟩
    · rintro ⟨i, hi, hqi⟩
      rcases Nat.lt_succ_iff_lt_or_eq.1 hi with h | h
      · have := ih.2 ⟨i, h, hqi⟩; omega
      · subst h; rw [hqi]; simp

/-- Where all that is true stands first, the count is where it ends. -/
theorem cnt_first {q : Nat → Bool} {n : Nat} (h : ∀ i j, i ≤ j → j < n → q j = true → q i = true) : ∀ i, i < n → (q i = true ↔ i < cnt q n) := by
  induction n with
  | zero => intro i hi; omega
  | succ n ih =>
    intro i hi
    have ih := ih fun i j a b => h i j a (by omega)
    have hle := cnt_le q n
    simp only [cnt]
    cases hq : q n with
    | true =>
      have hall : cnt q n = n := cnt_all fun j hj => h j n (by omega) (by omega) hq
      have := h i n (by omega) (by omega) hq
      simp only [this, hall, if_true, true_iff]
      omega
    | false =>
      simp only [Bool.false_eq_true, if_false, Nat.add_zero]
      rcases Nat.lt_succ_iff_lt_or_eq.1 hi with hh | hh
      · exact ih i hh
      · subst hh
        rw [hq]
        constructor
        · intro h; cases h
        · intro h; omega

theorem cnt_add_split (p q : Nat → Bool) (n : Nat) (h : ∀ i, i < n → p i = true → q i = true) : cnt q n = cnt p n + cnt (fun i => q i && !p i) n := by
  induction n with
  | zero => rfl
  | succ n ih =>
    simp only [cnt]
    rw [ih fun i hi => h i (by omega)]
    have hh := h n (by omega)
    by_cases hp : p n = true
    · simp [hh hp, hp]; omega
    · rw [Bool.not_eq_true] at hp
      by_cases hq : q n = true
      · simp [hp, hq]; omega
      · rw [Bool.not_eq_true] at hq
        simp [hp, hq]
end Go.Proofs.Ytkadfmndnnpglaa
