/-
  The plain law of sort.Search: the binary search as a function of the answers, with the list of the numbers that it asks for. No program is named here.
-/
import Derived.RowKit
namespace Go.Proofs.Ytkadfmndnnpglaa

/-- Binary search between lo and hi with at most the given number of rounds: where it ends, and what it has asked for. -/
def srch (p : Nat → Bool) : Nat → Nat → Nat → List Nat → Nat × List Nat
  | 0, lo, _, l => (lo, l)
  | f + 1, lo, hi, l => if lo < hi then
      (if p ((lo + hi) / 2) then srch p f lo ((lo + hi) / 2) (l ++ [(lo + hi) / 2]) else srch p f ((lo + hi) / 2 + 1) hi (l ++ [(lo + hi) / 2]))
    else (lo, l)
theorem srch_stop (p : Nat → Bool) (f lo hi : Nat) (l : List Nat) (h : ¬ lo < hi) : srch p f lo hi l = (lo, l) := by
  cases f <;> simp [srch, h]
theorem srch_fuel (p : Nat → Bool) : ∀ (f g lo hi : Nat) (l : List Nat), hi - lo ≤ f → hi - lo ≤ g → srch p f lo hi l = srch p g lo hi l := by
  intro f
  induction f with
  | zero => intro g lo hi l h1 h2; rw [srch_stop _ _ _ _ _ (by omega), srch_stop _ _ _ _ _ (by omega)]
  | succ f ih =>
    intro g lo hi l h1 h2
    by_cases hlt : lo < hi
    · cases g with
      | zero => omega
      | succ g =>
        simp only [srch, if_pos hlt]
        split
        · exact ih _ _ _ _ (by omega) (by omega)
        · exact ih _ _ _ _ (by omega) (by omega)
    · rw [srch_stop _ _ _ _ _ hlt, srch_stop _ _ _ _ _ hlt]
theorem srch_yes (p : Nat → Bool) (f lo hi : Nat) (l : List Nat) (h : lo < hi) (hf : hi - lo ≤ f) (hp : p ((lo + hi) / 2) = true) :
    srch p f lo hi l = srch p ((lo + hi) / 2 - lo) lo ((lo + hi) / 2) (l ++ [(lo + hi) / 2]) := by
  cases f with
  | zero => omega
  | succ f =>
    simp only [srch, if_pos h, hp, if_true]
    exact srch_fuel _ _ _ _ _ _ (by omega) (by omega)
theorem srch_no (p : Nat → Bool) (f lo hi : Nat) (l : List Nat) (h : lo < hi) (hf : hi - lo ≤ f) (hp : p ((lo + hi) / 2) = false) :
    srch p f lo hi l = srch p (hi - ((lo + hi) / 2 + 1)) ((lo + hi) / 2 + 1) hi (l ++ [(lo + hi) / 2]) := by
  cases f with
  | zero => omega
  | succ f =>
    simp only [srch, if_pos h, hp]
    exact srch_fuel _ _ _ _ _ _ (by omega) (by omega)

/-- Whatever the answers: the place has true or is the end, and the one ahead of it has false. -/
theorem srch_ends (p : Nat → Bool) (n : Nat) : ∀ (f lo hi : Nat) (l : List Nat), hi - lo ≤ f → lo ≤ hi → hi ≤ n → (hi = n ∨ p hi = true) → (lo = 0 ∨ p (lo - 1) = false) →
    (srch p f lo hi l).1 ≤ n ∧ ((srch p f lo hi l).1 = n ∨ p (srch p f lo hi l).1 = true) ∧ ((srch p f lo hi l).1 = 0 ∨ p ((srch p f lo hi l).1 - 1) = false) := by
  intro f
  induction f with
  | zero =>
    intro lo hi l h0 h1 h2 h3 h4
    have e : lo = hi := by omega
    subst e
    simp only [srch]
    exact ⟨h2, h3, h4⟩
  | succ f ih =>
    intro lo hi l h0 h1 h2 h3 h4
    by_cases hlt : lo < hi
    · simp only [srch, if_pos hlt]
      split
      · rename_i hp
        exact ih _ _ _ (by omega) (by omega) (by omega) (.inr hp) h4
      · rename_i hp
        exact ih _ _ _ (by omega) (by omega) (by omega) h3 (.inr (by simpa using hp))
    · have e : lo = hi := by omega
      subst e
      rw [srch_stop _ _ _ _ _ (by omega)]
      exact ⟨h2, h3, h4⟩

/-- Where all that is false stands first, the place is the number of those. -/
theorem srch_first (p : Nat → Bool) (n k : Nat) (hk : k ≤ n) (h1 : ∀ i, i < k → p i = false) (h2 : ∀ i, k ≤ i → i < n → p i = true) : (srch p n 0 n []).1 = k := by
  obtain ⟨a, b, c⟩ := srch_ends p n n 0 n [] (by omega) (by omega) (by omega) (.inl rfl) (.inl rfl)
  generalize (srch p n 0 n []).1 = r at a b c
  rcases Nat.lt_trichotomy r k with h | h | h
  · rcases b with b | b
    · omega
    · rw [h1 r h] at b; cases b
  · exact h
  · rcases c with c | c
    · omega
    · rw [h2 (r - 1) (by omega) (by omega)] at c; cases c

theorem srch_congr (p q : Nat → Bool) (n : Nat) (h : ∀ i, i < n → p i = q i) : ∀ (f lo hi : Nat) (l : List Nat), hi ≤ n → srch p f lo hi l = srch q f lo hi l := by
  intro f
  induction f with
  | zero => intro lo hi l _; rfl
  | succ f ih =>
    intro lo hi l hh
    simp only [srch]
    split
    · rw [h ((lo + hi) / 2) (by omega)]
      split
      · exact ih _ _ _ (by omega)
      · exact ih _ _ _ (by omega)
    · rfl

/-- What is asked for later is put behind. -/
theorem srch_log (p : Nat → Bool) : ∀ (f lo hi : Nat) (l : List Nat), ∃ t, (srch p f lo hi l).2 = l ++ t := by
  intro f
  induction f with
  | zero => intro lo hi l; exact ⟨[], by simp [srch]⟩
  | succ f ih =>
    intro lo hi l
    simp only [srch]
    split
    · split
      · obtain ⟨t, ht⟩ := ih lo ((lo + hi) / 2) (l ++ [(lo + hi) / 2])
        exact ⟨_, by rw [ht, List.append_assoc]⟩
      · obtain ⟨t, ht⟩ := ih ((lo + hi) / 2 + 1) hi (l ++ [(lo + hi) / 2])
        exact ⟨_, by rw [ht, List.append_assoc]⟩
    · exact ⟨[], by simp⟩

/-- How many are asked for: at most k where there are fewer than 2^k left. -/
theorem srch_few (p : Nat → Bool) : ∀ (k f lo hi : Nat) (l : List Nat), hi - lo < 2 ^ k → (srch p f lo hi l).2.length ≤ l.length + k := by
  intro k
  induction k with
  | zero =>
    intro f lo hi l h
    rw [srch_stop _ _ _ _ _ (by omega)]
    simp
  | succ k ih =>
    intro f lo hi l h
    cases f with
    | zero => simp [srch]
    | succ f =>
      simp only [srch]
      rw [Nat.pow_succ] at h
      split
      · split
        · have := ih f lo ((lo + hi) / 2) (l ++ [(lo + hi) / 2]) (by omega)
          simp at this; omega
        · have := ih f ((lo + hi) / 2 + 1) hi (l ++ [(lo + hi) / 2]) (by omega)
          simp at this; omega
      · simp

/-- What is asked for: each in the range, none twice. -/
theorem srch_each (p : Nat → Bool) (n : Nat) : ∀ (f lo hi : Nat) (l : List Nat), hi ≤ n → (∀ a ∈ l, a < n ∧ (a < lo ∨ hi ≤ a)) → l.Nodup → (∀ a ∈ (srch p f lo hi l).2, a < n) ∧ (srch p f lo hi l).2.Nodup := by
  intro f
  induction f with
  | zero => intro lo hi l _ h1 h2; exact ⟨fun a ha => (h1 a ha).1, h2⟩
  | succ f ih =>
    intro lo hi l hn h1 h2
    simp only [srch]
    split
    · rename_i hlt
      have hnd : (l ++ [(lo + hi) / 2]).Nodup := by
        rw [List.nodup_append]
        refine ⟨h2, by simp, fun a ha b hb => ?_⟩
        simp only [List.mem_singleton] at hb
        have := h1 a ha
        omega
      split
      · exact ih _ _ _ (by omega) (fun a ha => by
          rw [List.mem_append, List.mem_singleton] at ha
          rcases ha with ha | rfl
          · have := h1 a ha; omega
          · omega) hnd
      · exact ih _ _ _ hn (fun a ha => by
          rw [List.mem_append, List.mem_singleton] at ha
          rcases ha with ha | rfl
          · have := h1 a ha; omega
          · omega) hnd
    · exact ⟨fun a ha => (h1 a ha).1, h2⟩

/-- What the answer rests on is asked for. -/
theorem srch_has (p : Nat → Bool) (n : Nat) : ∀ (f lo hi : Nat) (l : List Nat), hi - lo ≤ f → lo ≤ hi → (hi = n ∨ hi ∈ l) → (lo = 0 ∨ lo - 1 ∈ l) →
    ((srch p f lo hi l).1 = n ∨ (srch p f lo hi l).1 ∈ (srch p f lo hi l).2) ∧ ((srch p f lo hi l).1 = 0 ∨ (srch p f lo hi l).1 - 1 ∈ (srch p f lo hi l).2) := by
  intro f
  induction f with
  | zero => intro lo hi l h0 h1 h2 h3; obtain rfl : lo = hi := by omega
            exact ⟨h2, h3⟩
  | succ f ih =>
    intro lo hi l h0 h1 h2 h3
    by_cases hlt : lo < hi
    · simp only [srch, if_pos hlt]
      split
      · exact ih _ _ _ (by omega) (by omega) (.inr (by simp)) (h3.imp id fun h => by simp [h])
      · exact ih _ _ _ (by omega) (by omega) (h2.imp id fun h => by simp [h]) (.inr (by simp))
    · obtain rfl : lo = hi := by omega
      rw [srch_stop _ _ _ _ _ (by omega)]
      exact ⟨h2, h3⟩

theorem srch_some (p : Nat → Bool) (n : Nat) (h : 0 < n) : 0 < (srch p n 0 n []).2.length := by
  cases n with
  | zero => omega
  | succ n =>
    simp only [srch, if_pos h]
    split
    · obtain ⟨t, ht⟩ := srch_log p n 0 ((0 + (n + 1)) / 2) ([] ++ [(0 + (n + 1)) / 2])
      rw [ht]; simp
    · obtain ⟨t, ht⟩ := srch_log p n ((0 + (n + 1)) / 2 + 1) (n + 1) ([] ++ [(0 + (n + 1)) / 2])
      rw [ht]; simp
end Go.Proofs.Ytkadfmndnnpglaa
