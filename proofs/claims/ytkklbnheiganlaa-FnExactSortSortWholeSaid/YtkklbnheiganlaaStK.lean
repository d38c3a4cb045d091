/-
  What every swap and every question within range keeps, the stable sort keeps; and how many of them it makes. No program of Go is named here.
-/
import Derived.Test.YtkklbnheiganlaaStM
namespace Go.Proofs.Ytkklbnheiganlaa
set_option linter.unusedVariables false

/-- Kept by questions and swaps of places below n. -/
structure Keeps {σ : Type} (M : Mach σ) (n : Nat) (K : σ → Prop) : Prop where
  tick : ∀ s i j, i < n → j < n → K s → K (M.tick s i j)
  swap : ∀ s i j, i < n → j < n → K s → K (M.swap s i j)

section
variable {σ : Type} {M : Mach σ} {n : Nat} {K : σ → Prop} (G : Keeps M n K)
include G
theorem keep_insInner (a : Nat) : ∀ (j : Nat) (s : σ), j < n → K s → K (insInner M a j s)
  | 0, _, _, h => h
  | j + 1, s, hj, h => by
    unfold insInner
    split
    · split
      · exact keep_insInner a j _ (by omega) (G.swap _ _ _ hj (by omega) (G.tick _ _ _ hj (by omega) h))
      · exact G.tick _ _ _ hj (by omega) h
    · exact h
theorem keep_insOuter (a : Nat) : ∀ (k i : Nat) (s : σ), i + k ≤ n → K s → K (insOuter M a k i s)
  | 0, _, _, _, h => h
  | k + 1, i, s, hi, h => keep_insOuter a k (i + 1) _ (by omega) (keep_insInner G a i s (by omega) h)
theorem keep_insSort (a b : Nat) (s : σ) (hb : b ≤ n) (h : K s) : K (insSort M a b s) := by
  unfold insSort
  rcases Nat.lt_or_ge a b with c | c
  · exact keep_insOuter G a _ _ s (by omega) h
  · rw [show b - (a + 1) = 0 by omega]; exact h
theorem keep_swapR (a b : Nat) : ∀ (k i : Nat) (s : σ), a + i + k ≤ n → b + i + k ≤ n → K s → K (swapR M a b k i s)
  | 0, _, _, _, _, h => h
  | k + 1, i, s, h1, h2, h => keep_swapR a b k (i + 1) _ (by omega) (by omega) (G.swap _ _ _ (by omega) (by omega) h)
theorem keep_swapDn : ∀ (k x : Nat) (s : σ), x < n → K s → K (swapDn M k x s)
  | 0, _, _, _, h => h
  | k + 1, x, s, hx, h => keep_swapDn k (x - 1) _ (by omega) (G.swap _ _ _ hx (by omega) h)
theorem keep_rotL (m : Nat) : ∀ (f i j : Nat) (s : σ), i ≤ m → m + j ≤ n → K s → K (rotL M m f i j s)
  | 0, _, _, _, _, _, h => h
  | f + 1, i, j, s, h1, h2, h => by
    unfold rotL
    split
    · exact keep_swapR G _ _ _ _ _ (by omega) (by omega) h
    · split
      · exact keep_rotL m f _ _ _ (by omega) h2 (keep_swapR G _ _ _ _ _ (by omega) (by omega) h)
      · exact keep_rotL m f _ _ _ h1 (by omega) (keep_swapR G _ _ _ _ _ (by omega) (by omega) h)
theorem keep_rotate (a m b : Nat) (s : σ) (h1 : m ≤ b) (h2 : b ≤ n) (h : K s) : K (rotate M a m b s) := keep_rotL G m _ _ _ s (by omega) (by omega) h
theorem keep_bsL (x y : Nat → Nat) (up : Bool) (lo hi : Nat) (hx : ∀ h, lo ≤ h → h < hi → x h < n ∧ y h < n) : ∀ (f i j : Nat) (s : σ), lo ≤ i → j ≤ hi → K s → K (bsL M x y up f i j s).2
  | 0, _, _, _, _, _, h => h
  | f + 1, i, j, s, h1, h2, h => by
    by_cases hlt : i < j
    · have hr := hx ((i + j) / 2) (by omega) (by omega)
      by_cases hv : M.less s (x ((i + j) / 2)) (y ((i + j) / 2)) = up
      · rw [bsL_up hlt hv]; exact keep_bsL x y up lo hi hx f _ _ _ (by omega) h2 (G.tick _ _ _ hr.1 hr.2 h)
      · rw [bsL_dn hlt hv]; exact keep_bsL x y up lo hi hx f _ _ _ h1 (by omega) (G.tick _ _ _ hr.1 hr.2 h)
    · rw [bsL_stop hlt]; exact h
theorem keep_symM : ∀ (f a m b : Nat) (s : σ), a < m → m < b → b ≤ n → K s → K (symM M f a m b s)
  | 0, _, _, _, _, _, _, _, h => h
  | f + 1, a, m, b, s, h1, h2, h3, h => by
    unfold symM
    split
    · rename_i c
      have hR := bsL_range (M := M) (x := fun h => h) (y := fun _ => a) (up := true) (b - m) m b s (by omega)
      exact keep_swapR G _ _ _ _ _ (by show a + 0 + ((bsL M (fun h => h) (fun _ => a) true (b - m) m b s).1 - 1 - a) ≤ n; omega) (by show a + 1 + 0 + ((bsL M (fun h => h) (fun _ => a) true (b - m) m b s).1 - 1 - a) ≤ n; omega)
        (keep_bsL G _ _ _ m b (fun q q1 q2 => ⟨by omega, by omega⟩) _ _ _ _ (Nat.le_refl _) (Nat.le_refl _) h)
    · split
      · exact keep_swapDn G _ _ _ (by omega) (keep_bsL G _ _ _ a m (fun q q1 q2 => ⟨by omega, by omega⟩) _ _ _ _ (Nat.le_refl _) (Nat.le_refl _) h)
      · rename_i c1 c2
        dsimp only
        have hst : K (symMStart M a m b s).2 ∧ a ≤ (symMStart M a m b s).1 ∧ (symMStart M a m b s).1 ≤ m ∧ (symMStart M a m b s).1 ≤ (a + b) / 2 ∧ (a + b) / 2 + m - b ≤ (symMStart M a m b s).1 := by
          unfold symMStart bsr
          split
          · rename_i c3
            have hR := bsL_range (M := M) (x := fun c => (a + b) / 2 + m - 1 - c) (y := fun c => c) (up := false) ((a + b) / 2 - ((a + b) / 2 + m - b)) ((a + b) / 2 + m - b) ((a + b) / 2) s (by omega)
            exact ⟨keep_bsL G _ _ _ ((a + b) / 2 + m - b) ((a + b) / 2) (fun q q1 q2 => ⟨by omega, by omega⟩) _ _ _ _ (Nat.le_refl _) (Nat.le_refl _) h, by omega, by omega, by omega, by omega⟩
          · rename_i c3
            have hR := bsL_range (M := M) (x := fun c => (a + b) / 2 + m - 1 - c) (y := fun c => c) (up := false) (m - a) a m s (by omega)
            exact ⟨keep_bsL G _ _ _ a m (fun q q1 q2 => ⟨by omega, by omega⟩) _ _ _ _ (Nat.le_refl _) (Nat.le_refl _) h, by omega, by omega, by omega, by omega⟩
        generalize (symMStart M a m b s).1 = st at *
        generalize (symMStart M a m b s).2 = t at *
        obtain ⟨hK, k1, k2, k3, k4⟩ := hst
        have s1 : K (if st < m ∧ m < (a + b) / 2 + m - st then rotate M st m ((a + b) / 2 + m - st) t else t) := by
          split
          · exact keep_rotate G _ _ _ _ (by omega) (by omega) hK
          · exact hK
        generalize (if st < m ∧ m < (a + b) / 2 + m - st then rotate M st m ((a + b) / 2 + m - st) t else t) = u1 at *
        have s2 : K (if a < st ∧ st < (a + b) / 2 then symM M f a st ((a + b) / 2) u1 else u1) := by
          split
          · rename_i c4; exact keep_symM f _ _ _ _ c4.1 c4.2 (by omega) s1
          · exact s1
        generalize (if a < st ∧ st < (a + b) / 2 then symM M f a st ((a + b) / 2) u1 else u1) = u2 at *
        split
        · rename_i c5; exact keep_symM f _ _ _ _ c5.1 c5.2 h3 s2
        · exact s2
theorem keep_symMerge (a m b : Nat) (s : σ) (h1 : a < m) (h2 : m < b) (h3 : b ≤ n) (h : K s) : K (symMerge M a m b s) := keep_symM G _ a m b s h1 h2 h3 h
theorem keep_stBlocks : ∀ (k a : Nat) (s : σ), K s → K (stBlocks M n k a s).2
  | 0, _, _, h => h
  | k + 1, a, s, h => by
    unfold stBlocks
    split
    · rename_i c; exact keep_stBlocks k _ _ (keep_insSort G _ _ _ c h)
    · exact h
theorem keep_stPass (bs : Nat) (hbs : 1 ≤ bs) : ∀ (k a : Nat) (s : σ), K s → K (stPass M n bs k a s).2
  | 0, _, _, h => h
  | k + 1, a, s, h => by
    unfold stPass
    split
    · rename_i c; exact keep_stPass bs hbs k _ _ (keep_symMerge G _ _ _ _ (by omega) (by omega) c h)
    · exact h
theorem keep_stRound (bs : Nat) (hbs : 1 ≤ bs) (s : σ) (h : K s) : K (stRound M n bs s) := by
  unfold stRound
  dsimp only
  split
  · rename_i c; exact keep_symMerge G _ _ _ _ (by omega) c (Nat.le_refl _) (keep_stPass G bs hbs _ _ _ h)
  · exact keep_stPass G bs hbs _ _ _ h
theorem keep_stLoop : ∀ (k bs : Nat) (s : σ), 1 ≤ bs → K s → K (stLoop M n k bs s)
  | 0, _, _, _, h => h
  | k + 1, bs, s, hbs, h => by
    unfold stLoop
    split
    · exact keep_stLoop k _ _ (by omega) (keep_stRound G bs hbs s h)
    · exact h
theorem keep_stable (s : σ) (h : K s) : K (stable M n s) := by
  unfold stable
  exact keep_stLoop G _ _ _ (by omega) (keep_insSort G _ _ _ (Nat.le_refl _) (keep_stBlocks G _ _ _ h))
end
end Go.Proofs.Ytkklbnheiganlaa
