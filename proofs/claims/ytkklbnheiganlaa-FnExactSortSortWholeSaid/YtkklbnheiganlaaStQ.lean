/-
  How many questions and swaps the stable sort makes. No program of Go is named here.
-/
import Derived.Test.YtkklbnheiganlaaStM
namespace Go.Proofs.Ytkklbnheiganlaa
set_option linter.unusedVariables false

/-- A count that a question or a swap moves by one at most. -/
structure Costs {σ : Type} (M : Mach σ) (c : σ → Nat) : Prop where
  tick : ∀ s i j, c (M.tick s i j) ≤ c s + 1
  swap : ∀ s i j, c (M.swap s i j) ≤ c s + 1

section
variable {σ : Type} {M : Mach σ} {c : σ → Nat} (G : Costs M c)
include G
theorem cost_insInner (a : Nat) : ∀ (j : Nat) (s : σ), c (insInner M a j s) ≤ c s + 2 * (j - a)
  | 0, s => by show c s ≤ _; omega
  | j + 1, s => by
    unfold insInner
    have h1 := G.tick s (j + 1) j
    have h2 := G.swap (M.tick s (j + 1) j) (j + 1) j
    split
    · split
      · have h3 := cost_insInner a j (M.swap (M.tick s (j + 1) j) (j + 1) j)
        omega
      · omega
    · omega
theorem cost_insOuter (a : Nat) : ∀ (k i : Nat) (s : σ), c (insOuter M a k i s) ≤ c s + k * (2 * (i + k - a))
  | 0, _, s => by show c s ≤ _; omega
  | k + 1, i, s => by
    show c (insOuter M a k (i + 1) (insInner M a i s)) ≤ _
    have h1 := cost_insInner G a i s
    have h2 := cost_insOuter a k (i + 1) (insInner M a i s)
    rw [show i + 1 + k - a = i + (k + 1) - a by omega] at h2
    have h3 : (k + 1) * (2 * (i + (k + 1) - a)) = k * (2 * (i + (k + 1) - a)) + 2 * (i + (k + 1) - a) := Nat.succ_mul _ _
    omega
theorem cost_insSort (a b : Nat) (s : σ) : c (insSort M a b s) ≤ c s + (b - a - 1) * (2 * (b - a)) := by
  unfold insSort
  have h := cost_insOuter G a (b - (a + 1)) (a + 1) s
  rcases Nat.lt_or_ge a b with h1 | h1
  · rw [show a + 1 + (b - (a + 1)) - a = b - a by omega, show b - (a + 1) = b - a - 1 by omega] at h
    rw [show b - (a + 1) = b - a - 1 by omega]; exact h
  · rw [show b - (a + 1) = 0 by omega] at h ⊢
    omega
theorem cost_swapR (a b : Nat) : ∀ (k i : Nat) (s : σ), c (swapR M a b k i s) ≤ c s + k
  | 0, _, s => Nat.le_refl _
  | k + 1, i, s => by
    show c (swapR M a b k (i + 1) (M.swap s (a + i) (b + i))) ≤ _
    have h1 := cost_swapR a b k (i + 1) (M.swap s (a + i) (b + i))
    have h2 := G.swap s (a + i) (b + i)
    omega
theorem cost_swapDn : ∀ (k x : Nat) (s : σ), c (swapDn M k x s) ≤ c s + k
  | 0, _, s => Nat.le_refl _
  | k + 1, x, s => by
    show c (swapDn M k (x - 1) (M.swap s x (x - 1))) ≤ _
    have h1 := cost_swapDn k (x - 1) (M.swap s x (x - 1))
    have h2 := G.swap s x (x - 1)
    omega
theorem cost_rotL (m : Nat) : ∀ (f i j : Nat) (s : σ), c (rotL M m f i j s) ≤ c s + (i + j)
  | 0, _, _, s => by show c s ≤ _; omega
  | f + 1, i, j, s => by
    unfold rotL
    split
    · have := cost_swapR G (m - i) m i 0 s; omega
    · split
      · have h1 := cost_swapR G (m - i) m j 0 s
        have h2 := cost_rotL m f (i - j) j (swapR M (m - i) m j 0 s)
        omega
      · have h1 := cost_swapR G (m - i) (m + j - i) i 0 s
        have h2 := cost_rotL m f i (j - i) (swapR M (m - i) (m + j - i) i 0 s)
        omega
theorem cost_rotate (a m b : Nat) (s : σ) : c (rotate M a m b s) ≤ c s + ((m - a) + (b - m)) := cost_rotL G m _ _ _ s
theorem cost_bsL (x y : Nat → Nat) (up : Bool) : ∀ (f i j : Nat) (s : σ), c (bsL M x y up f i j s).2 ≤ c s + f
  | 0, _, _, s => Nat.le_refl _
  | f + 1, i, j, s => by
    have h0 := G.tick s (x ((i + j) / 2)) (y ((i + j) / 2))
    by_cases hlt : i < j
    · by_cases hv : M.less s (x ((i + j) / 2)) (y ((i + j) / 2)) = up
      · rw [bsL_up hlt hv]
        have h1 := cost_bsL x y up f ((i + j) / 2 + 1) j (M.tick s (x ((i + j) / 2)) (y ((i + j) / 2))); omega
      · rw [bsL_dn hlt hv]
        have h1 := cost_bsL x y up f i ((i + j) / 2) (M.tick s (x ((i + j) / 2)) (y ((i + j) / 2))); omega
    · rw [bsL_stop hlt]; show c s ≤ _; omega
theorem cost_symMStart (a m b : Nat) (s : σ) (h1 : a < m) (h2 : m < b) : c (symMStart M a m b s).2 ≤ c s + (b - a) := by
  unfold symMStart bsr
  split
  · refine Nat.le_trans (cost_bsL G _ _ _ _ _ _ _) ?_; omega
  · refine Nat.le_trans (cost_bsL G _ _ _ _ _ _ _) ?_; omega
omit G in
theorem symMStart_range (a m b : Nat) (s : σ) (h1 : a < m) (h2 : m < b) : a ≤ (symMStart M a m b s).1 ∧ (symMStart M a m b s).1 ≤ m ∧ (symMStart M a m b s).1 ≤ (a + b) / 2 ∧ (a + b) / 2 + m - b ≤ (symMStart M a m b s).1 := by
  unfold symMStart bsr
  split
  · have hR := bsL_range (M := M) (x := fun c => (a + b) / 2 + m - 1 - c) (y := fun c => c) (up := false) ((a + b) / 2 - ((a + b) / 2 + m - b)) ((a + b) / 2 + m - b) ((a + b) / 2) s (by omega)
    omega
  · have hR := bsL_range (M := M) (x := fun c => (a + b) / 2 + m - 1 - c) (y := fun c => c) (up := false) (m - a) a m s (by omega)
    omega
theorem cost_symM : ∀ (f d a m b : Nat) (s : σ), a < m → m < b → b - a ≤ 2 ^ d → c (symM M f a m b s) ≤ c s + 2 * ((b - a) * d)
  | 0, _, _, _, _, s, _, _, _ => by show c s ≤ _; omega
  | f + 1, 0, a, m, b, s, h1, h2, h3 => by have : b - a ≤ 1 := h3; omega
  | f + 1, d + 1, a, m, b, s, h1, h2, h3 => by
    have hd : (b - a) * (d + 1) = (b - a) * d + (b - a) := Nat.mul_succ _ _
    rw [Nat.pow_succ] at h3
    unfold symM
    split
    · have hR := bsL_range (M := M) (x := fun h => h) (y := fun _ => a) (up := true) (b - m) m b s (by omega)
      have e1 := cost_bsL G (fun h => h) (fun _ => a) true (b - m) m b s
      have e2 := cost_swapR G a (a + 1) ((bsL M (fun h => h) (fun _ => a) true (b - m) m b s).1 - 1 - a) 0 (bsL M (fun h => h) (fun _ => a) true (b - m) m b s).2
      unfold bsr
      dsimp only
      omega
    · split
      · have hR := bsL_range (M := M) (x := fun _ => m) (y := fun h => h) (up := false) (m - a) a m s (by omega)
        have e1 := cost_bsL G (fun _ => m) (fun h => h) false (m - a) a m s
        have e2 := cost_swapDn G (m - (bsL M (fun _ => m) (fun h => h) false (m - a) a m s).1) m (bsL M (fun _ => m) (fun h => h) false (m - a) a m s).2
        unfold bsr
        dsimp only
        omega
      · dsimp only
        have hs := cost_symMStart G a m b s h1 h2
        have hr := symMStart_range (M := M) a m b s h1 h2
        generalize (symMStart M a m b s).1 = st at *
        generalize (symMStart M a m b s).2 = t at *
        have r1 : c (if st < m ∧ m < (a + b) / 2 + m - st then rotate M st m ((a + b) / 2 + m - st) t else t) ≤ c t + (b - a) := by
          split
          · have := cost_rotate G st m ((a + b) / 2 + m - st) t; omega
          · omega
        generalize (if st < m ∧ m < (a + b) / 2 + m - st then rotate M st m ((a + b) / 2 + m - st) t else t) = s1 at *
        have r2 : c (if a < st ∧ st < (a + b) / 2 then symM M f a st ((a + b) / 2) s1 else s1) ≤ c s1 + 2 * (((a + b) / 2 - a) * d) := by
          split
          · rename_i cc
            exact cost_symM f d a st ((a + b) / 2) s1 cc.1 cc.2 (by omega)
          · omega
        generalize (if a < st ∧ st < (a + b) / 2 then symM M f a st ((a + b) / 2) s1 else s1) = s2 at *
        have r3 : c (if (a + b) / 2 < (a + b) / 2 + m - st ∧ (a + b) / 2 + m - st < b then symM M f ((a + b) / 2) ((a + b) / 2 + m - st) b s2 else s2) ≤ c s2 + 2 * ((b - (a + b) / 2) * d) := by
          split
          · rename_i cc
            exact cost_symM f d ((a + b) / 2) _ b s2 cc.1 cc.2 (by omega)
          · omega
        have r4 : ((a + b) / 2 - a) * d + (b - (a + b) / 2) * d = (b - a) * d := by
          rw [← Nat.add_mul, show (a + b) / 2 - a + (b - (a + b) / 2) = b - a by omega]
        omega
theorem cost_symMerge (d a m b : Nat) (s : σ) (h1 : a < m) (h2 : m < b) (h3 : b - a ≤ 2 ^ d) : c (symMerge M a m b s) ≤ c s + 2 * ((b - a) * d) := cost_symM G _ d a m b s h1 h2 h3
theorem cost_stBlocks (n : Nat) : ∀ (k a : Nat) (s : σ), a ≤ n → a ≤ (stBlocks M n k a s).1 ∧ (stBlocks M n k a s).1 ≤ n ∧ c (stBlocks M n k a s).2 ≤ c s + 38 * ((stBlocks M n k a s).1 - a)
  | 0, a, s, h => ⟨Nat.le_refl _, h, by show c s ≤ _; omega⟩
  | k + 1, a, s, h => by
    unfold stBlocks
    split
    · rename_i h2
      have h1 := cost_insSort G a (a + 20) s
      rw [show a + 20 - a = 20 by omega] at h1
      have h3 := cost_stBlocks n k (a + 20) (insSort M a (a + 20) s) h2
      omega
    · exact ⟨Nat.le_refl _, h, by show c s ≤ _; omega⟩
theorem cost_stPass (n bs d : Nat) (hb : 0 < bs) (hd : n ≤ 2 ^ d) : ∀ (k a : Nat) (s : σ), a ≤ n → a ≤ (stPass M n bs k a s).1 ∧ (stPass M n bs k a s).1 ≤ n ∧ c (stPass M n bs k a s).2 ≤ c s + 2 * (((stPass M n bs k a s).1 - a) * d)
  | 0, a, s, h => ⟨Nat.le_refl _, h, by show c s ≤ _; omega⟩
  | k + 1, a, s, h => by
    unfold stPass
    split
    · rename_i h2
      have h1 := cost_symMerge G d a (a + bs) (a + 2 * bs) s (by omega) (by omega) (by omega)
      have h3 := cost_stPass n bs d hb hd k (a + 2 * bs) (symMerge M a (a + bs) (a + 2 * bs) s) h2
      generalize stPass M n bs k (a + 2 * bs) (symMerge M a (a + bs) (a + 2 * bs) s) = r at *
      have h4 : (r.1 - a) * d = (r.1 - (a + 2 * bs)) * d + (a + 2 * bs - a) * d := by
        rw [← Nat.add_mul, show r.1 - (a + 2 * bs) + (a + 2 * bs - a) = r.1 - a by omega]
      omega
    · exact ⟨Nat.le_refl _, h, by show c s ≤ _; omega⟩
theorem cost_stRound (n bs d : Nat) (hb : 0 < bs) (hd : n ≤ 2 ^ d) (s : σ) : c (stRound M n bs s) ≤ c s + 2 * (n * d) := by
  unfold stRound
  have h1 := cost_stPass G n bs d hb hd n 0 s (Nat.zero_le _)
  generalize stPass M n bs n 0 s = r at *
  dsimp only
  have h4 : n * d = (r.1 - 0) * d + (n - r.1) * d := by rw [← Nat.add_mul, show r.1 - 0 + (n - r.1) = n by omega]
  split
  · have h2 := cost_symMerge G d r.1 (r.1 + bs) n r.2 (by omega) (by omega) (by omega)
    omega
  · omega
theorem cost_stLoop (n d : Nat) (hd : n ≤ 2 ^ d) : ∀ (k P bs : Nat) (s : σ), 0 < bs → n ≤ bs * 2 ^ P → c (stLoop M n k bs s) ≤ c s + P * (2 * (n * d))
  | 0, _, _, s, _, _ => by show c s ≤ _; omega
  | k + 1, P, bs, s, hb, hP => by
    unfold stLoop
    split
    · rename_i hlt
      cases P with
      | zero => rw [Nat.pow_zero, Nat.mul_one] at hP; omega
      | succ P =>
        have h1 := cost_stRound G n bs d hb hd s
        have h2 := cost_stLoop n d hd k P (bs * 2) (stRound M n bs s) (by omega) (by rw [Nat.mul_assoc, Nat.mul_comm 2, ← Nat.pow_succ]; exact hP)
        have h3 : (P + 1) * (2 * (n * d)) = P * (2 * (n * d)) + 2 * (n * d) := Nat.succ_mul _ _
        omega
    · omega
theorem cost_stable (n : Nat) (s : σ) (hn : n ≤ 1048576) : c (stable M n s) ≤ c s + 3000000000000 := by
  unfold stable
  have h1 := cost_stBlocks G n n 0 s (Nat.zero_le _)
  generalize stBlocks M n n 0 s = r at *
  dsimp only
  have h2 := cost_insSort G r.1 n r.2
  have h3 := cost_stLoop G n 20 (by omega) n 16 20 (insSort M r.1 n r.2) (by omega) (by omega)
  have h4 : (n - r.1 - 1) * (2 * (n - r.1)) ≤ 1048576 * (2 * 1048576) := Nat.mul_le_mul (by omega) (by omega)
  omega
end
end Go.Proofs.Ytkklbnheiganlaa
