/-
  Counting: a permutation made of swaps keeps every count; the rank of an element in order is its place. No program of Go is named here.
-/
import Derived.Test.YtjammaglboehcaaStR
namespace Go.Proofs.Ytjammaglboehcaa
set_option linter.unusedVariables false

/-- How many k below n have q. -/
def cnt (q : Nat → Bool) : Nat → Nat
  | 0 => 0
  | n + 1 => cnt q n + (if q n = true then 1 else 0)

theorem cnt_congr {q r : Nat → Bool} : ∀ {n : Nat}, (∀ k, k < n → q k = r k) → cnt q n = cnt r n
  | 0, _ => rfl
  | n + 1, h => by
    show cnt q n + _ = cnt r n + _
    rw [cnt_congr (n := n) (fun k hk => h k (by omega)), h n (by omega)]
theorem cnt_le (q : Nat → Bool) : ∀ n, cnt q n ≤ n
  | 0 => Nat.le_refl _
  | n + 1 => by show cnt q n + _ ≤ _; have := cnt_le q n; split <;> omega
theorem cnt_set (q : Nat → Bool) (i : Nat) (b : Bool) : ∀ n, i < n → cnt (fun k => if k = i then b else q k) n + (if q i = true then 1 else 0) = cnt q n + (if b = true then 1 else 0)
  | 0, h => absurd h (Nat.not_lt_zero _)
  | n + 1, h => by
    show cnt (fun k => if k = i then b else q k) n + (if (if n = i then b else q n) = true then 1 else 0) + _ = cnt q n + (if q n = true then 1 else 0) + _
    by_cases hi : n = i
    · subst hi
      rw [if_pos rfl, cnt_congr (r := q) (fun k hk => if_neg (by omega))]
      omega
    · rw [if_neg hi]
      have := cnt_set q i b n (by omega)
      omega
theorem cnt_swap (q : Nat → Bool) {n i j : Nat} (hi : i < n) (hj : j < n) : cnt (fun k => if k = i then q j else if k = j then q i else q k) n = cnt q n := by
  by_cases hij : i = j
  · subst hij
    exact cnt_congr fun k hk => by
      by_cases h : k = i
      · subst h; rw [if_pos rfl]
      · rw [if_neg h, if_neg h]
  · have h1 := cnt_set (fun k => if k = j then q i else q k) i (q j) n hi
    have h2 := cnt_set q j (q i) n hj
    rw [if_neg hij] at h1
    omega
theorem cnt_pos {q : Nat → Bool} : ∀ {n : Nat}, 0 < cnt q n → ∃ k, k < n ∧ q k = true
  | 0, h => absurd h (Nat.lt_irrefl _)
  | n + 1, h => by
    by_cases hq : q n = true
    · exact ⟨n, by omega, hq⟩
    · obtain ⟨k, hk, e⟩ := cnt_pos (q := q) (n := n) (by
        have : cnt q (n + 1) = cnt q n + 0 := by show cnt q n + _ = _; rw [if_neg hq]
        omega)
      exact ⟨k, by omega, e⟩
theorem cnt_lt (m : Nat) : ∀ n, cnt (fun k => decide (k < m)) n = min m n
  | 0 => by show 0 = _; omega
  | n + 1 => by
    show cnt (fun k => decide (k < m)) n + _ = _
    rw [cnt_lt m n]
    by_cases h : n < m
    · rw [if_pos (by simpa using h)]; omega
    · rw [if_neg (by simpa using h)]; omega
theorem cnt_one {n i : Nat} (hi : i < n) : cnt (fun k => decide (k = i)) n = 1 := by
  have h1 : cnt (fun k => decide (k = i)) n = cnt (fun k => if k = i then true else (fun _ => false) k) n := cnt_congr fun k _ => by by_cases h : k = i <;> simp [h]
  have h2 := cnt_set (fun _ => false) i true n hi
  have h3 : ∀ n, cnt (fun _ => false) n = 0 := fun n => by
    induction n with
    | zero => rfl
    | succ n ih => show cnt _ n + _ = _; rw [ih]; rfl
  rw [h1]
  rw [h3] at h2
  simpa using h2

/-- p takes every count along. -/
def Count (n : Nat) (p : Nat → Nat) : Prop := ∀ q : Nat → Bool, cnt (fun k => q (p k)) n = cnt q n
theorem count_id (n : Nat) : Count n (fun k => k) := fun _ => rfl
theorem count_keeps (T : Nat → Nat → Bool) (n : Nat) : Keeps (tabM T) n (Count n) := ⟨fun _ _ _ _ _ h => h, fun p i j hi hj h q => by
  rw [← h q, ← cnt_swap (fun k => q (p k)) hi hj]
  exact cnt_congr fun k _ => by
    show q (swapF p i j k) = _
    unfold swapF
    by_cases h1 : k = i
    · rw [if_pos h1, if_pos h1]
    · rw [if_neg h1, if_neg h1]
      by_cases h2 : k = j
      · rw [if_pos h2, if_pos h2]
      · rw [if_neg h2, if_neg h2]⟩
theorem stable_count (T : Nat → Nat → Bool) (n : Nat) : Count n (stable (tabM T) n (fun k => k)) := keep_stable (count_keeps T n) _ (count_id n)

theorem Count.onto {n : Nat} {p : Nat → Nat} (h : Count n p) {i : Nat} (hi : i < n) : ∃ k, k < n ∧ p k = i := by
  have h1 := h (fun k => decide (k = i))
  rw [cnt_one hi] at h1
  obtain ⟨k, hk, e⟩ := cnt_pos (q := fun k => decide (p k = i)) (n := n) (by rw [h1]; exact Nat.one_pos)
  exact ⟨k, hk, by simpa using e⟩

theorem Bf.asymm {T : Nat → Nat → Bool} (S : Swo T) {i j : Nat} (h : Bf T i j) (h' : Bf T j i) : False := (h.trans S h').ne S

def bfB (T : Nat → Nat → Bool) (i j : Nat) : Bool := T i j || (!T j i && decide (i < j))
theorem bfB_iff {T : Nat → Nat → Bool} {i j : Nat} : bfB T i j = true ↔ Bf T i j := by
  unfold bfB Bf
  cases T i j <;> cases T j i <;> simp

/-- The rank of what stands at k is k. -/
theorem rank_of {T : Nat → Nat → Bool} (S : Swo T) {n : Nat} {p : Nat → Nat} (hc : Count n p) (ho : Ord T p 0 n) {k : Nat} (hk : k < n) : cnt (fun j => bfB T j (p k)) n = k := by
  rw [← hc (fun j => bfB T j (p k)), cnt_congr (r := fun l => decide (l < k)) (fun l hl => ?_), cnt_lt]
  · omega
  · rw [Bool.eq_iff_iff, bfB_iff, decide_eq_true_iff]
    refine ⟨fun h => ?_, fun h => ho l k (Nat.zero_le _) h hk⟩
    rcases Nat.lt_trichotomy l k with h1 | h1 | h1
    · exact h1
    · subst h1; exact (h.ne S).elim
    · exact (h.asymm S (ho k l (Nat.zero_le _) h1 hl)).elim
end Go.Proofs.Ytjammaglboehcaa
