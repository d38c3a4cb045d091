/-
  What the stable sort does to a view of the machine's state: first part: swaps, rotations, searches. No program of Go is named here.
-/
import Derived.Test.YtkklbnheiganlaaStM
namespace Go.Proofs.Ytkklbnheiganlaa
set_option linter.unusedVariables false

/-- A function with two places exchanged. -/
def swapF (d : Nat → Nat) (i j : Nat) : Nat → Nat := fun k => if k = i then d j else if k = j then d i else d k

/-- What stands where in a machine's state: Less asks a table, Swap exchanges. -/
structure View {σ : Type} (M : Mach σ) (T : Nat → Nat → Bool) (v : σ → Nat → Nat) : Prop where
  less : ∀ s i j, M.less s i j = T (v s i) (v s j)
  tick : ∀ s i j, v (M.tick s i j) = v s
  swap : ∀ s i j, v (M.swap s i j) = swapF (v s) i j

/-- [lo, m) and [m, hi) exchanged. -/
def rotF (lo m hi : Nat) (d : Nat → Nat) : Nat → Nat := fun x => if x < lo ∨ hi ≤ x then d x else if x < lo + (hi - m) then d (x + (m - lo)) else d (x - (hi - m))

section
variable {σ : Type} {M : Mach σ} {T : Nat → Nat → Bool} {v : σ → Nat → Nat} (V : View M T v)
include V

theorem v_swapR (a b : Nat) : ∀ (k i : Nat) (s : σ), a + k ≤ b → v (swapR M a b k i s) = fun x => if a + i ≤ x ∧ x < a + i + k then v s (x - a + b) else if b + i ≤ x ∧ x < b + i + k then v s (x - b + a) else v s x
  | 0, i, s, h => by
    funext x
    show v s x = _
    rw [if_neg (by omega), if_neg (by omega)]
  | k + 1, i, s, h => by
    show v (swapR M a b k (i + 1) (M.swap s (a + i) (b + i))) = _
    rw [v_swapR a b k (i + 1) _ (by omega), V.swap]
    funext x
    unfold swapF
    by_cases h1 : x = a + i
    · subst h1
      rw [if_neg (by omega), if_neg (by omega), if_pos rfl, if_pos (by omega), show a + i - a + b = b + i by omega]
    · by_cases h2 : x = b + i
      · subst h2
        rw [if_neg (by omega), if_neg (by omega), if_neg h1, if_pos rfl, if_neg (by omega), if_pos (by omega), show b + i - b + a = a + i by omega]
      · by_cases h3 : a + (i + 1) ≤ x ∧ x < a + (i + 1) + k
        · rw [if_pos h3, if_neg (by omega), if_neg (by omega), if_pos (by omega)]
        · rw [if_neg h3]
          by_cases h4 : b + (i + 1) ≤ x ∧ x < b + (i + 1) + k
          · rw [if_pos h4, if_neg (by omega), if_neg (by omega), if_neg (by omega), if_pos (by omega)]
          · rw [if_neg h4, if_neg h1, if_neg h2, if_neg (by omega), if_neg (by omega)]

theorem v_swapAdj (a : Nat) : ∀ (k i : Nat) (s : σ), v (swapR M a (a + 1) k i s) = rotF (a + i) (a + i + 1) (a + i + 1 + k) (v s)
  | 0, i, s => by
    funext x
    show v s x = _
    unfold rotF
    by_cases h : x < a + i ∨ a + i + 1 + 0 ≤ x
    · rw [if_pos h]
    · rw [if_neg h, if_neg (by omega), show x - (a + i + 1 + 0 - (a + i + 1)) = x by omega]
  | k + 1, i, s => by
    show v (swapR M a (a + 1) k (i + 1) (M.swap s (a + i) (a + 1 + i))) = _
    rw [v_swapAdj a k (i + 1) _, V.swap]
    funext x
    unfold rotF swapF
    by_cases h1 : x = a + i
    · subst h1
      rw [if_pos (by omega), if_pos rfl, if_neg (by omega), if_pos (by omega)]
      congr 1; omega
    · by_cases h2 : x < a + i ∨ a + i + 1 + (k + 1) ≤ x
      · rw [if_pos (show x < a + (i + 1) ∨ a + (i + 1) + 1 + k ≤ x by omega), if_neg h1, if_neg (by omega), if_pos h2]
      · rw [if_neg (show ¬ (x < a + (i + 1) ∨ a + (i + 1) + 1 + k ≤ x) by omega), if_neg h2]
        by_cases h3 : x < a + i + (k + 1)
        · rw [if_pos (show x < a + (i + 1) + (a + (i + 1) + 1 + k - (a + (i + 1) + 1)) by omega), if_neg (by omega), if_neg (by omega), if_pos (by omega)]
          congr 1; omega
        · rw [if_neg (show ¬ x < a + (i + 1) + (a + (i + 1) + 1 + k - (a + (i + 1) + 1)) by omega), if_neg (by omega), if_pos (by omega), if_neg (by omega)]
          congr 1; omega

theorem v_swapDn : ∀ (k x : Nat) (s : σ), k ≤ x → v (swapDn M k x s) = rotF (x - k) x (x + 1) (v s)
  | 0, x, s, h => by
    funext y
    show v s y = _
    unfold rotF
    by_cases h : y < x - 0 ∨ x + 1 ≤ y
    · rw [if_pos h]
    · rw [if_neg h, if_pos (by omega)]; congr 1; omega
  | k + 1, x, s, h => by
    show v (swapDn M k (x - 1) (M.swap s x (x - 1))) = _
    rw [v_swapDn k (x - 1) _ (by omega), V.swap]
    funext y
    unfold rotF swapF
    by_cases h1 : y = x
    · subst h1
      rw [if_pos (by omega), if_pos rfl, if_neg (by omega), if_neg (by omega)]
      congr 1; omega
    · by_cases h2 : y < x - (k + 1) ∨ x + 1 ≤ y
      · rw [if_pos (by omega), if_neg h1, if_neg (by omega), if_pos h2]
      · rw [if_neg (by omega), if_neg h2]
        by_cases h3 : y = x - (k + 1)
        · subst h3
          rw [if_pos (by omega), if_neg (by omega), if_pos (by omega), if_pos (by omega)]
          congr 1; omega
        · rw [if_neg (by omega), if_neg (by omega), if_neg (by omega), if_neg (by omega)]
          congr 1; omega

theorem v_rotL (m : Nat) : ∀ (f i j : Nat) (s : σ), 1 ≤ i → 1 ≤ j → i ≤ m → i + j ≤ f → v (rotL M m f i j s) = rotF (m - i) m (m + j) (v s)
  | 0, i, j, s, h1, h2, h3, h4 => absurd h4 (by omega)
  | f + 1, i, j, s, h1, h2, h3, h4 => by
    unfold rotL
    by_cases hij : i = j
    · subst hij
      rw [if_pos rfl, v_swapR V _ _ _ _ _ (by omega)]
      funext x
      unfold rotF
      by_cases c1 : x < m - i ∨ m + i ≤ x
      · rw [if_pos c1, if_neg (by omega), if_neg (by omega)]
      · rw [if_neg c1]
        by_cases c2 : x < m
        · rw [if_pos (by omega), if_pos (by omega)]; congr 1; omega
        · rw [if_neg (by omega), if_pos (by omega), if_neg (by omega)]; congr 1; omega
    · rw [if_neg hij]
      by_cases hgt : j < i
      · rw [if_pos hgt, v_rotL m f _ _ _ (by omega) h2 (by omega) (by omega), v_swapR V _ _ _ _ _ (by omega)]
        funext x
        unfold rotF
        dsimp only
        by_cases c1 : x < m - i ∨ m + j ≤ x
        · rw [if_pos (by omega), if_neg (by omega), if_neg (by omega), if_pos c1]
        · rw [if_neg c1]
          by_cases c2 : x < m - (i - j)
          · rw [if_pos (by omega), if_pos (by omega), if_pos (by omega)]; congr 1; omega
          · rw [if_neg (by omega)]
            by_cases c3 : x < m - (i - j) + (m + j - m)
            · rw [if_pos c3]
              by_cases c4 : m ≤ x + (m - (m - (i - j)))
              · rw [if_neg (by omega), if_pos (by omega), if_neg (by omega)]; congr 1; omega
              · exfalso; omega
            · rw [if_neg c3]
              rw [if_neg (by omega), if_neg (by omega), if_neg (by omega)]
      · rw [if_neg hgt, v_rotL m f _ _ _ h1 (by omega) h3 (by omega), v_swapR V _ _ _ _ _ (by omega)]
        funext x
        unfold rotF
        dsimp only
        by_cases c1 : x < m - i ∨ m + j ≤ x
        · rw [if_pos (by omega), if_neg (by omega), if_neg (by omega), if_pos c1]
        · rw [if_neg c1]
          by_cases c2 : m + (j - i) ≤ x
          · rw [if_pos (by omega), if_neg (by omega), if_pos (by omega), if_neg (by omega)]; congr 1; omega
          · rw [if_neg (by omega)]
            by_cases c3 : x < m - i + (m + (j - i) - m)
            · rw [if_pos c3, if_neg (by omega), if_neg (by omega), if_pos (by omega)]
            · rw [if_neg c3, if_pos (by omega), if_pos (by omega)]; congr 1; omega

theorem v_rotate (a m b : Nat) (s : σ) (h1 : a < m) (h2 : m < b) : v (rotate M a m b s) = rotF a m b (v s) := by
  unfold rotate
  rw [v_rotL V m _ _ _ _ (by omega) (by omega) (by omega) (Nat.le_refl _), show m - (m - a) = a by omega, show m + (b - m) = b by omega]

theorem v_bsL (x y : Nat → Nat) (up : Bool) : ∀ (f i j : Nat) (s : σ), v (bsL M x y up f i j s).2 = v s
  | 0, _, _, _ => rfl
  | f + 1, i, j, s => by
    by_cases hlt : i < j
    · by_cases hv : M.less s (x ((i + j) / 2)) (y ((i + j) / 2)) = up
      · rw [bsL_up hlt hv, v_bsL x y up f, V.tick]
      · rw [bsL_dn hlt hv, v_bsL x y up f, V.tick]
    · rw [bsL_stop hlt]

/-- Where a search ends: the answer just below is 'up', the one there is not. -/
theorem bsL_ends (x y : Nat → Nat) (up : Bool) : ∀ (f i j : Nat) (s : σ), i ≤ j → j - i ≤ f →
    (i < (bsL M x y up f i j s).1 → T (v s (x ((bsL M x y up f i j s).1 - 1))) (v s (y ((bsL M x y up f i j s).1 - 1))) = up) ∧
    ((bsL M x y up f i j s).1 < j → T (v s (x (bsL M x y up f i j s).1)) (v s (y (bsL M x y up f i j s).1)) ≠ up)
  | 0, i, j, s, h1, h2 => ⟨fun h => absurd h (Nat.lt_irrefl _), fun h => absurd h (by show ¬ i < j; omega)⟩
  | f + 1, i, j, s, h1, h2 => by
    by_cases hlt : i < j
    · by_cases hv : M.less s (x ((i + j) / 2)) (y ((i + j) / 2)) = up
      · rw [bsL_up hlt hv]
        have ih := bsL_ends x y up f ((i + j) / 2 + 1) j (M.tick s (x ((i + j) / 2)) (y ((i + j) / 2))) (by omega) (by omega)
        have hr := bsL_range (M := M) (x := x) (y := y) (up := up) f ((i + j) / 2 + 1) j (M.tick s (x ((i + j) / 2)) (y ((i + j) / 2))) (by omega)
        rw [V.tick] at ih
        refine ⟨fun h => ?_, ih.2⟩
        rcases Nat.lt_or_ge ((i + j) / 2 + 1) (bsL M x y up f ((i + j) / 2 + 1) j (M.tick s (x ((i + j) / 2)) (y ((i + j) / 2)))).1 with h3 | h3
        · exact ih.1 h3
        · rw [show (bsL M x y up f ((i + j) / 2 + 1) j (M.tick s (x ((i + j) / 2)) (y ((i + j) / 2)))).1 - 1 = (i + j) / 2 by omega, ← V.less]; exact hv
      · rw [bsL_dn hlt hv]
        have ih := bsL_ends x y up f i ((i + j) / 2) (M.tick s (x ((i + j) / 2)) (y ((i + j) / 2))) (by omega) (by omega)
        have hr := bsL_range (M := M) (x := x) (y := y) (up := up) f i ((i + j) / 2) (M.tick s (x ((i + j) / 2)) (y ((i + j) / 2))) (by omega)
        rw [V.tick] at ih
        refine ⟨ih.1, fun h => ?_⟩
        rcases Nat.lt_or_ge (bsL M x y up f i ((i + j) / 2) (M.tick s (x ((i + j) / 2)) (y ((i + j) / 2)))).1 ((i + j) / 2) with h3 | h3
        · exact ih.2 h3
        · rw [show (bsL M x y up f i ((i + j) / 2) (M.tick s (x ((i + j) / 2)) (y ((i + j) / 2)))).1 = (i + j) / 2 by omega, ← V.less]; exact hv
    · rw [bsL_stop hlt]
      exact ⟨fun h => absurd h (Nat.lt_irrefl _), fun h => absurd h hlt⟩
end
end Go.Proofs.Ytkklbnheiganlaa
