/-
  The plain law of sort.Search: the binary search as a function of the answers, with the list of the numbers that it asks for. No program is named here.
-/
import Derived.RowKit
namespace Go.Proofs.Ytkadfmndnnpglaa

/-- Binary search between lo and hi with at most the given number of rounds: where it ends, and what it has asked for. -/
def srch (p : Nat → Bool) : Nat → Nat → Nat → List Nat → Nat × List Nat
  | 0, lo, _, l => (lo, l)
  | f + 1, lo, hi, l => if lo < hi then
      (if p ((lo + hi) / 2) then srch p f lo ((lo + hi) / 2) (l ++ [(lo + hi) / 2]) else srch p f ((lo + hi) / 2 + 1) hi (l ++ [(lo + hi) / 2]))
    else (lo, l)
theorem srch_stop (p : Nat → Bool) (f lo hi : Nat) (l : List Nat) (h : ¬ lo < hi) : srch p f lo hi l = (lo, l) := by
  cases f <;> simp [srch, h]
theorem srch_fuel (p : Nat → Bool) : ∀ (f g lo hi : Nat) (l : List Nat), hi - lo ≤ f → hi - lo ≤ g → srch p f lo hi l = srch p g lo hi l := by
  intro f
  induction f with
  | zero => intro g lo hi l h1 h2; rw [srch_stop _ _ _ _ _ (by omega), srch_stop _ _ _ _ _ (by omega)]
  | succ f ih =>
    intro g lo hi l h1 h2
    by_cases hlt : lo < hi
    · cases g with
      | zero => omega
      | succ g =>
        simp only [srch, if_pos hlt]
        split
        · exact ih _ _ _ _ (by omega) (by omega)
        · exact ih _ _ _ _ (by omega) (by omega)
    · rw [srch_stop _ _ _ _ _ hlt, srch_stop _ _ _ _ _ hlt]
theorem srch_yes (p : Nat → Bool) (f lo hi : Nat) (l : List Nat) (h : lo < hi) (hf : hi - lo ≤ f) (hp : p ((lo + hi) / 2) = true) :
    srch p f lo hi l = srch p ((lo + hi) / 2 - lo) lo ((lo + hi) / 2) (l ++ [(lo + hi) / 2]) := by
  cases f with
  | zero => omega
  | succ f =>
    simp only [srch, if_pos h, hp, if_true]
    exact srch_fuel _ _ _ _ _ _ (by omega) (by omega)
theorem srch_no (p : Nat → Bool) (f lo hi : Nat) (l : List Nat) (h : lo < hi) (hf : hi - lo ≤ f) (hp : p ((lo + hi) / 2) = false) :
    srch p f lo hi l = srch p (hi - ((lo + hi) / 2 + 1)) ((lo + hi) / 2 + 1) hi (l ++ [(lo + hi) / 2]) := by
  cases f with
  | zero => omega
  | succ f =>
    simp only [srch, if_pos h, hp]
    exact srch_fuel _ _ _ _ _ _ (by omega) (by omega)

/-- Whatever the answers: the place has true or is the end, and the one ahead of it has false. -/
theorem srch_ends (p : Nat → Bool) (n : Nat) : ∀ (f lo hi : Nat) (l : List Nat), hi - lo ≤ f → lo ≤ hi → hi ≤ n → (hi = n ∨ p hi = true) → (lo = 0 ∨ p (lo - 1) = false) →
    (srch p f lo hi l).1 ≤ n ∧ ((srch p f lo hi l).1 = n ∨ p (srch p f lo hi l).1 = true) ∧ ((srch p f lo hi l).1 = 0 ∨ p ((srch p f lo hi l).1 - 1) = false) := by
  intro f
  induction f with
  | zero =>
    intro lo hi l h0 h1 h2 h3 h4
    have e : lo = hi := by omega
    subst e
    simp only [srch]
    exact ⟨h2, h3, h4⟩
  | succ f ih =>
    intro lo hi l h0 h1 h2 h3 h4
    by_cases hlt : lo < hi
    · simp only [srch, if_pos hlt]
      split
      · rename_i hp
        exact ih _ _ _ (by omega) (by omega) (by omega) (.inr hp) h4
      · rename_i hp
        exact ih _ _ _ (by omega) (by omega) (by omega) h3 (.inr (by simpa using hp))
    · have e : lo = hi := by omega
      subst e
      rw [srch_stop _ _ _ _ _ (by omega)]
      exact ⟨h2, h3, h4⟩

/-- Where all that is false stands first, the place is the number of those. -/
theorem srch_first (p : Nat → Bool) (n k : Nat) (hk : k ≤ n) (h1 : ∀ i, i < k → p i = false) (h2 : ∀ i, k ≤ i → i < n → p i = true) : (srch p n 0 n []).1 = k := by
  obtain ⟨a, b, c⟩ := srch_ends p n n 0 n [] (by omega) (by omega) (by omega) (.inl rfl) (.inl rfl)
  generalize (srch p n 0 n []).1 = r at a b c
  rcases Nat.lt_trichotomy r k with h | h | h
  · rcases b with b | b
    · omega
    · rw [h1 r h] at b; cases b
  · exact h
  · rcases c with c | c
    · omega
    · rw [h2 (r - 1) (by omega) (by omega)] at c; cases c

theorem srch_congr (p q : Nat → Bool) (n : Nat) (h : ∀ i, i < n → p i = q i) : ∀ (f lo hi : Nat) (l : List Nat), hi ≤ n → srch p f lo hi l = srch q f lo hi l := by
  intro f
  induction f with
  | zero => intro lo hi l _; rfl
  | succ f ih =>
    intro lo hi l hh
    simp only [srch]
    split
    · rw [h ((lo + hi) / 2) (by omega)]
      split
      · exact ih _ _ _ (by omega)
      · exact ih _ _ _ (by omega)
    · rfl
end Go.Proofs.Ytkadfmndnnpglaa
