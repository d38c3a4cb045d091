/-
  Several texts of the walk or of the plain theory in one: StM, StK, StQ, StP, StP2, StP3, StP4.
-/
import Derived.Test.YtjammaglboehcaaWords
namespace Go.Proofs.Ytjammaglboehcaa
set_option linter.unusedVariables false

/-- A machine: what Less answers, the state behind a call of Less, the state behind a call of Swap. -/
structure Mach (σ : Type) where
  less : σ → Nat → Nat → Bool
  tick : σ → Nat → Nat → σ
  swap : σ → Nat → Nat → σ

/-- A bound that a state keeps if a later one keeps it. -/
structure Guard {σ : Type} (M : Mach σ) (ok : σ → Prop) : Prop where
  tick : ∀ s i j, ok (M.tick s i j) → ok s
  swap : ∀ s i j, ok (M.swap s i j) → ok s

section
variable {σ : Type} (M : Mach σ)

/-- for j > a && Less(j, j-1); j--: Swap(j, j-1) -/
def insInner (a : Nat) : Nat → σ → σ
  | 0, s => s
  | j + 1, s => if a < j + 1 then (if M.less s (j + 1) j = true then insInner a j (M.swap (M.tick s (j + 1) j) (j + 1) j) else M.tick s (j + 1) j) else s

/-- k rounds of the outer loop, from i on -/
def insOuter (a : Nat) : Nat → Nat → σ → σ
  | 0, _, s => s
  | k + 1, i, s => insOuter a k (i + 1) (insInner M a i s)

def insSort (a b : Nat) (s : σ) : σ := insOuter M a (b - (a + 1)) (a + 1) s

/-- k swaps of a+i and b+i, from i on -/
def swapR (a b : Nat) : Nat → Nat → σ → σ
  | 0, _, s => s
  | k + 1, i, s => swapR a b k (i + 1) (M.swap s (a + i) (b + i))

/-- k swaps of x and x-1, downwards -/
def swapDn : Nat → Nat → σ → σ
  | 0, _, s => s
  | k + 1, x, s => swapDn k (x - 1) (M.swap s x (x - 1))

/-- the loop of rotate -/
def rotL (m : Nat) : Nat → Nat → Nat → σ → σ
  | 0, _, _, s => s
  | f + 1, i, j, s => if i = j then swapR M (m - i) m i 0 s else if j < i then rotL m f (i - j) j (swapR M (m - i) m j 0 s) else rotL m f i (j - i) (swapR M (m - i) (m + j - i) i 0 s)

def rotate (a m b : Nat) (s : σ) : σ := rotL M m ((m - a) + (b - m)) (m - a) (b - m) s

/-- a binary search: the upper half where Less(x h, y h) is 'up' -/
def bsL (x y : Nat → Nat) (up : Bool) : Nat → Nat → Nat → σ → Nat × σ
  | 0, i, _, s => (i, s)
  | f + 1, i, j, s => if i < j then (if M.less s (x ((i + j) / 2)) (y ((i + j) / 2)) = up then bsL x y up f ((i + j) / 2 + 1) j (M.tick s (x ((i + j) / 2)) (y ((i + j) / 2))) else bsL x y up f i ((i + j) / 2) (M.tick s (x ((i + j) / 2)) (y ((i + j) / 2)))) else (i, s)

def bsr (x y : Nat → Nat) (up : Bool) (i j : Nat) (s : σ) : Nat × σ := bsL M x y up (j - i) i j s

/-- what symMerge does when it has found where to part -/
def symMStart (a m b : Nat) (s : σ) : Nat × σ :=
  if (a + b) / 2 < m then bsr M (fun c => (a + b) / 2 + m - 1 - c) (fun c => c) false ((a + b) / 2 + m - b) ((a + b) / 2) s
  else bsr M (fun c => (a + b) / 2 + m - 1 - c) (fun c => c) false a m s

def symM : Nat → Nat → Nat → Nat → σ → σ
  | 0, _, _, _, s => s
  | f + 1, a, m, b, s =>
    if m - a = 1 then
      (let r := bsr M (fun h => h) (fun _ => a) true m b s
       swapR M a (a + 1) (r.1 - 1 - a) 0 r.2)
    else if b - m = 1 then
      (let r := bsr M (fun _ => m) (fun h => h) false a m s
       swapDn M (m - r.1) m r.2)
    else
      (let r := symMStart M a m b s
       let mid := (a + b) / 2
       let e := mid + m - r.1
       let s1 := if r.1 < m ∧ m < e then rotate M r.1 m e r.2 else r.2
       let s2 := if a < r.1 ∧ r.1 < mid then symM f a r.1 mid s1 else s1
       if mid < e ∧ e < b then symM f mid e b s2 else s2)

def symMerge (a m b : Nat) (s : σ) : σ := symM M (b - a) a m b s

/-- what symMerge does behind its search -/
def symTail (f a m b mid st : Nat) (t : σ) : σ :=
  let e := mid + m - st
  let s1 := if st < m ∧ m < e then rotate M st m e t else t
  let s2 := if a < st ∧ st < mid then symM M f a st mid s1 else s1
  if mid < e ∧ e < b then symM M f mid e b s2 else s2

/-- the first loop of stable: blocks of 20, k of them at most -/
def stBlocks (n : Nat) : Nat → Nat → σ → Nat × σ
  | 0, a, s => (a, s)
  | k + 1, a, s => if a + 20 ≤ n then stBlocks n k (a + 20) (insSort M a (a + 20) s) else (a, s)

/-- one pass of merges of blocks of bs -/
def stPass (n bs : Nat) : Nat → Nat → σ → Nat × σ
  | 0, a, s => (a, s)
  | k + 1, a, s => if a + 2 * bs ≤ n then stPass n bs k (a + 2 * bs) (symMerge M a (a + bs) (a + 2 * bs) s) else (a, s)

def stRound (n bs : Nat) (s : σ) : σ :=
  let r := stPass M n bs n 0 s
  if r.1 + bs < n then symMerge M r.1 (r.1 + bs) n r.2 else r.2

/-- the passes -/
def stLoop (n : Nat) : Nat → Nat → σ → σ
  | 0, _, s => s
  | k + 1, bs, s => if bs < n then stLoop n k (bs * 2) (stRound M n bs s) else s

def stable (n : Nat) (s : σ) : σ :=
  let r := stBlocks M n n 0 s
  stLoop M n n 20 (insSort M r.1 n r.2)
end

/-! ### Equations -/
section
variable {σ : Type} {M : Mach σ} {x y : Nat → Nat} {up : Bool} {f i j : Nat} {s : σ}
theorem bsL_stop (h : ¬ i < j) : bsL M x y up f i j s = (i, s) := by
  cases f with
  | zero => rfl
  | succ f => show (if i < j then _ else _) = _; rw [if_neg h]
theorem bsL_up (h : i < j) (hv : M.less s (x ((i + j) / 2)) (y ((i + j) / 2)) = up) : bsL M x y up (f + 1) i j s = bsL M x y up f ((i + j) / 2 + 1) j (M.tick s (x ((i + j) / 2)) (y ((i + j) / 2))) := by
  show (if i < j then _ else _) = _; rw [if_pos h, if_pos hv]
theorem bsL_dn (h : i < j) (hv : M.less s (x ((i + j) / 2)) (y ((i + j) / 2)) ≠ up) : bsL M x y up (f + 1) i j s = bsL M x y up f i ((i + j) / 2) (M.tick s (x ((i + j) / 2)) (y ((i + j) / 2))) := by
  show (if i < j then _ else _) = _; rw [if_pos h, if_neg hv]
/-- where a search ends -/
theorem bsL_range : ∀ (f i j : Nat) (s : σ), i ≤ j → i ≤ (bsL M x y up f i j s).1 ∧ (bsL M x y up f i j s).1 ≤ j
  | 0, i, j, s, h => ⟨Nat.le_refl _, h⟩
  | f + 1, i, j, s, h => by
    by_cases hlt : i < j
    · by_cases hv : M.less s (x ((i + j) / 2)) (y ((i + j) / 2)) = up
      · rw [bsL_up hlt hv]
        have := bsL_range f ((i + j) / 2 + 1) j (M.tick s (x ((i + j) / 2)) (y ((i + j) / 2))) (by omega)
        omega
      · rw [bsL_dn hlt hv]
        have := bsL_range f i ((i + j) / 2) (M.tick s (x ((i + j) / 2)) (y ((i + j) / 2))) (by omega)
        omega
    · rw [bsL_stop hlt]; exact ⟨Nat.le_refl _, h⟩
end

/-! ### The bound goes down -/
section
variable {σ : Type} {M : Mach σ} {ok : σ → Prop} (G : Guard M ok)
include G
theorem ok_insInner (a : Nat) : ∀ (j : Nat) (s : σ), ok (insInner M a j s) → ok s
  | 0, _, h => h
  | j + 1, s, h => by
    unfold insInner at h
    split at h
    · split at h
      · exact G.tick _ _ _ (G.swap _ _ _ (ok_insInner a j _ h))
      · exact G.tick _ _ _ h
    · exact h
theorem ok_insOuter (a : Nat) : ∀ (k i : Nat) (s : σ), ok (insOuter M a k i s) → ok s
  | 0, _, _, h => h
  | k + 1, i, s, h => ok_insInner G a i s (ok_insOuter a k (i + 1) _ h)
theorem ok_insSort (a b : Nat) (s : σ) (h : ok (insSort M a b s)) : ok s := ok_insOuter G a _ _ s h
theorem ok_swapR (a b : Nat) : ∀ (k i : Nat) (s : σ), ok (swapR M a b k i s) → ok s
  | 0, _, _, h => h
  | k + 1, i, s, h => G.swap _ _ _ (ok_swapR a b k (i + 1) _ h)
theorem ok_swapDn : ∀ (k x : Nat) (s : σ), ok (swapDn M k x s) → ok s
  | 0, _, _, h => h
  | k + 1, x, s, h => G.swap _ _ _ (ok_swapDn k (x - 1) _ h)
theorem ok_rotL (m : Nat) : ∀ (f i j : Nat) (s : σ), ok (rotL M m f i j s) → ok s
  | 0, _, _, _, h => h
  | f + 1, i, j, s, h => by
    unfold rotL at h
    split at h
    · exact ok_swapR G _ _ _ _ _ h
    · split at h
      · exact ok_swapR G _ _ _ _ _ (ok_rotL m f _ _ _ h)
      · exact ok_swapR G _ _ _ _ _ (ok_rotL m f _ _ _ h)
theorem ok_rotate (a m b : Nat) (s : σ) (h : ok (rotate M a m b s)) : ok s := ok_rotL G m _ _ _ s h
theorem ok_bsL (x y : Nat → Nat) (up : Bool) : ∀ (f i j : Nat) (s : σ), ok (bsL M x y up f i j s).2 → ok s
  | 0, _, _, _, h => h
  | f + 1, i, j, s, h => by
    unfold bsL at h
    split at h
    · split at h
      · exact G.tick _ _ _ (ok_bsL x y up f _ _ _ h)
      · exact G.tick _ _ _ (ok_bsL x y up f _ _ _ h)
    · exact h
theorem ok_bsr (x y : Nat → Nat) (up : Bool) (i j : Nat) (s : σ) (h : ok (bsr M x y up i j s).2) : ok s := ok_bsL G x y up _ i j s h
theorem ok_symMStart (a m b : Nat) (s : σ) (h : ok (symMStart M a m b s).2) : ok s := by
  unfold symMStart at h
  split at h
  · exact ok_bsr G _ _ _ _ _ _ h
  · exact ok_bsr G _ _ _ _ _ _ h
theorem ok_symM : ∀ (f a m b : Nat) (s : σ), ok (symM M f a m b s) → ok s
  | 0, _, _, _, _, h => h
  | f + 1, a, m, b, s, h => by
    unfold symM at h
    split at h
    · exact ok_bsr G _ _ _ _ _ _ (ok_swapR G _ _ _ _ _ h)
    · split at h
      · exact ok_bsr G _ _ _ _ _ _ (ok_swapDn G _ _ _ h)
      · dsimp only at h
        refine ok_symMStart G a m b s ?_
        have h2 : ∀ (c : Prop) [Decidable c] (x y z : Nat) (t : σ), ok (if c then symM M f x y z t else t) → ok t := fun c _ x y z t ht => by
          split at ht
          · exact ok_symM f _ _ _ _ ht
          · exact ht
        have h3 := h2 _ _ _ _ _ (h2 _ _ _ _ _ h)
        split at h3
        · exact ok_rotate G _ _ _ _ h3
        · exact h3
theorem ok_symTail (f a m b mid st : Nat) (t : σ) (h : ok (symTail M f a m b mid st t)) : ok t := by
  unfold symTail at h
  dsimp only at h
  have h2 : ∀ (c : Prop) [Decidable c] (x y z : Nat) (t : σ), ok (if c then symM M f x y z t else t) → ok t := fun c _ x y z t ht => by
    split at ht
    · exact ok_symM G f _ _ _ _ ht
    · exact ht
  have h3 := h2 _ _ _ _ _ (h2 _ _ _ _ _ h)
  split at h3
  · exact ok_rotate G _ _ _ _ h3
  · exact h3
theorem ok_symMerge (a m b : Nat) (s : σ) (h : ok (symMerge M a m b s)) : ok s := ok_symM G _ a m b s h
theorem ok_stBlocks (n : Nat) : ∀ (k a : Nat) (s : σ), ok (stBlocks M n k a s).2 → ok s
  | 0, _, _, h => h
  | k + 1, a, s, h => by
    unfold stBlocks at h
    split at h
    · exact ok_insSort G _ _ _ (ok_stBlocks n k _ _ h)
    · exact h
theorem ok_stPass (n bs : Nat) : ∀ (k a : Nat) (s : σ), ok (stPass M n bs k a s).2 → ok s
  | 0, _, _, h => h
  | k + 1, a, s, h => by
    unfold stPass at h
    split at h
    · exact ok_symMerge G _ _ _ _ (ok_stPass n bs k _ _ h)
    · exact h
theorem ok_stRound (n bs : Nat) (s : σ) (h : ok (stRound M n bs s)) : ok s := by
  unfold stRound at h
  dsimp only at h
  split at h
  · exact ok_stPass G _ _ _ _ _ (ok_symMerge G _ _ _ _ h)
  · exact ok_stPass G _ _ _ _ _ h
theorem ok_stLoop (n : Nat) : ∀ (k bs : Nat) (s : σ), ok (stLoop M n k bs s) → ok s
  | 0, _, _, h => h
  | k + 1, bs, s, h => by
    unfold stLoop at h
    split at h
    · exact ok_stRound G _ _ _ (ok_stLoop n k _ _ h)
    · exact h
theorem ok_stable (n : Nat) (s : σ) (h : ok (stable M n s)) : ok s := by
  unfold stable at h
  exact ok_stBlocks G _ _ _ _ (ok_insSort G _ _ _ (ok_stLoop G _ _ _ _ h))
end
end Go.Proofs.Ytjammaglboehcaa

namespace Go.Proofs.Ytjammaglboehcaa
set_option linter.unusedVariables false

/-- Kept by questions and swaps of places below n. -/
structure Keeps {σ : Type} (M : Mach σ) (n : Nat) (K : σ → Prop) : Prop where
  tick : ∀ s i j, i < n → j < n → K s → K (M.tick s i j)
  swap : ∀ s i j, i < n → j < n → K s → K (M.swap s i j)

section
variable {σ : Type} {M : Mach σ} {n : Nat} {K : σ → Prop} (G : Keeps M n K)
include G
theorem keep_insInner (a : Nat) : ∀ (j : Nat) (s : σ), j < n → K s → K (insInner M a j s)
  | 0, _, _, h => h
  | j + 1, s, hj, h => by
    unfold insInner
    split
    · split
      · exact keep_insInner a j _ (by omega) (G.swap _ _ _ hj (by omega) (G.tick _ _ _ hj (by omega) h))
      · exact G.tick _ _ _ hj (by omega) h
    · exact h
theorem keep_insOuter (a : Nat) : ∀ (k i : Nat) (s : σ), i + k ≤ n → K s → K (insOuter M a k i s)
  | 0, _, _, _, h => h
  | k + 1, i, s, hi, h => keep_insOuter a k (i + 1) _ (by omega) (keep_insInner G a i s (by omega) h)
theorem keep_insSort (a b : Nat) (s : σ) (hb : b ≤ n) (h : K s) : K (insSort M a b s) := by
  unfold insSort
  rcases Nat.lt_or_ge a b with c | c
  · exact keep_insOuter G a _ _ s (by omega) h
  · rw [show b - (a + 1) = 0 by omega]; exact h
theorem keep_swapR (a b : Nat) : ∀ (k i : Nat) (s : σ), a + i + k ≤ n → b + i + k ≤ n → K s → K (swapR M a b k i s)
  | 0, _, _, _, _, h => h
  | k + 1, i, s, h1, h2, h => keep_swapR a b k (i + 1) _ (by omega) (by omega) (G.swap _ _ _ (by omega) (by omega) h)
theorem keep_swapDn : ∀ (k x : Nat) (s : σ), x < n → K s → K (swapDn M k x s)
  | 0, _, _, _, h => h
  | k + 1, x, s, hx, h => keep_swapDn k (x - 1) _ (by omega) (G.swap _ _ _ hx (by omega) h)
theorem keep_rotL (m : Nat) : ∀ (f i j : Nat) (s : σ), i ≤ m → m + j ≤ n → K s → K (rotL M m f i j s)
  | 0, _, _, _, _, _, h => h
  | f + 1, i, j, s, h1, h2, h => by
    unfold rotL
    split
    · exact keep_swapR G _ _ _ _ _ (by omega) (by omega) h
    · split
      · exact keep_rotL m f _ _ _ (by omega) h2 (keep_swapR G _ _ _ _ _ (by omega) (by omega) h)
      · exact keep_rotL m f _ _ _ h1 (by omega) (keep_swapR G _ _ _ _ _ (by omega) (by omega) h)
theorem keep_rotate (a m b : Nat) (s : σ) (h1 : m ≤ b) (h2 : b ≤ n) (h : K s) : K (rotate M a m b s) := keep_rotL G m _ _ _ s (by omega) (by omega) h
theorem keep_bsL (x y : Nat → Nat) (up : Bool) (lo hi : Nat) (hx : ∀ h, lo ≤ h → h < hi → x h < n ∧ y h < n) : ∀ (f i j : Nat) (s : σ), lo ≤ i → j ≤ hi → K s → K (bsL M x y up f i j s).2
  | 0, _, _, _, _, _, h => h
  | f + 1, i, j, s, h1, h2, h => by
    by_cases hlt : i < j
    · have hr := hx ((i + j) / 2) (by omega) (by omega)
      by_cases hv : M.less s (x ((i + j) / 2)) (y ((i + j) / 2)) = up
      · rw [bsL_up hlt hv]; exact keep_bsL x y up lo hi hx f _ _ _ (by omega) h2 (G.tick _ _ _ hr.1 hr.2 h)
      · rw [bsL_dn hlt hv]; exact keep_bsL x y up lo hi hx f _ _ _ h1 (by omega) (G.tick _ _ _ hr.1 hr.2 h)
    · rw [bsL_stop hlt]; exact h
theorem keep_symM : ∀ (f a m b : Nat) (s : σ), a < m → m < b → b ≤ n → K s → K (symM M f a m b s)
  | 0, _, _, _, _, _, _, _, h => h
  | f + 1, a, m, b, s, h1, h2, h3, h => by
    unfold symM
    split
    · rename_i c
      have hR := bsL_range (M := M) (x := fun h => h) (y := fun _ => a) (up := true) (b - m) m b s (by omega)
      exact keep_swapR G _ _ _ _ _ (by show a + 0 + ((bsL M (fun h => h) (fun _ => a) true (b - m) m b s).1 - 1 - a) ≤ n; omega) (by show a + 1 + 0 + ((bsL M (fun h => h) (fun _ => a) true (b - m) m b s).1 - 1 - a) ≤ n; omega)
        (keep_bsL G _ _ _ m b (fun q q1 q2 => ⟨by omega, by omega⟩) _ _ _ _ (Nat.le_refl _) (Nat.le_refl _) h)
    · split
      · exact keep_swapDn G _ _ _ (by omega) (keep_bsL G _ _ _ a m (fun q q1 q2 => ⟨by omega, by omega⟩) _ _ _ _ (Nat.le_refl _) (Nat.le_refl _) h)
      · rename_i c1 c2
        dsimp only
        have hst : K (symMStart M a m b s).2 ∧ a ≤ (symMStart M a m b s).1 ∧ (symMStart M a m b s).1 ≤ m ∧ (symMStart M a m b s).1 ≤ (a + b) / 2 ∧ (a + b) / 2 + m - b ≤ (symMStart M a m b s).1 := by
          unfold symMStart bsr
          split
          · rename_i c3
            have hR := bsL_range (M := M) (x := fun c => (a + b) / 2 + m - 1 - c) (y := fun c => c) (up := false) ((a + b) / 2 - ((a + b) / 2 + m - b)) ((a + b) / 2 + m - b) ((a + b) / 2) s (by omega)
            exact ⟨keep_bsL G _ _ _ ((a + b) / 2 + m - b) ((a + b) / 2) (fun q q1 q2 => ⟨by omega, by omega⟩) _ _ _ _ (Nat.le_refl _) (Nat.le_refl _) h, by omega, by omega, by omega, by omega⟩
          · rename_i c3
            have hR := bsL_range (M := M) (x := fun c => (a + b) / 2 + m - 1 - c) (y := fun c => c) (up := false) (m - a) a m s (by omega)
            exact ⟨keep_bsL G _ _ _ a m (fun q q1 q2 => ⟨by omega, by omega⟩) _ _ _ _ (Nat.le_refl _) (Nat.le_refl _) h, by omega, by omega, by omega, by omega⟩
        generalize (symMStart M a m b s).1 = st at *
        generalize (symMStart M a m b s).2 = t at *
        obtain ⟨hK, k1, k2, k3, k4⟩ := hst
        have s1 : K (if st < m ∧ m < (a + b) / 2 + m - st then rotate M st m ((a + b) / 2 + m - st) t else t) := by
          split
          · exact keep_rotate G _ _ _ _ (by omega) (by omega) hK
          · exact hK
        generalize (if st < m ∧ m < (a + b) / 2 + m - st then rotate M st m ((a + b) / 2 + m - st) t else t) = u1 at *
        have s2 : K (if a < st ∧ st < (a + b) / 2 then symM M f a st ((a + b) / 2) u1 else u1) := by
          split
          · rename_i c4; exact keep_symM f _ _ _ _ c4.1 c4.2 (by omega) s1
          · exact s1
        generalize (if a < st ∧ st < (a + b) / 2 then symM M f a st ((a + b) / 2) u1 else u1) = u2 at *
        split
        · rename_i c5; exact keep_symM f _ _ _ _ c5.1 c5.2 h3 s2
        · exact s2
theorem keep_symMerge (a m b : Nat) (s : σ) (h1 : a < m) (h2 : m < b) (h3 : b ≤ n) (h : K s) : K (symMerge M a m b s) := keep_symM G _ a m b s h1 h2 h3 h
theorem keep_stBlocks : ∀ (k a : Nat) (s : σ), K s → K (stBlocks M n k a s).2
  | 0, _, _, h => h
  | k + 1, a, s, h => by
    unfold stBlocks
    split
    · rename_i c; exact keep_stBlocks k _ _ (keep_insSort G _ _ _ c h)
    · exact h
theorem keep_stPass (bs : Nat) (hbs : 1 ≤ bs) : ∀ (k a : Nat) (s : σ), K s → K (stPass M n bs k a s).2
  | 0, _, _, h => h
  | k + 1, a, s, h => by
    unfold stPass
    split
    · rename_i c; exact keep_stPass bs hbs k _ _ (keep_symMerge G _ _ _ _ (by omega) (by omega) c h)
    · exact h
theorem keep_stRound (bs : Nat) (hbs : 1 ≤ bs) (s : σ) (h : K s) : K (stRound M n bs s) := by
  unfold stRound
  dsimp only
  split
  · rename_i c; exact keep_symMerge G _ _ _ _ (by omega) c (Nat.le_refl _) (keep_stPass G bs hbs _ _ _ h)
  · exact keep_stPass G bs hbs _ _ _ h
theorem keep_stLoop : ∀ (k bs : Nat) (s : σ), 1 ≤ bs → K s → K (stLoop M n k bs s)
  | 0, _, _, _, h => h
  | k + 1, bs, s, hbs, h => by
    unfold stLoop
    split
    · exact keep_stLoop k _ _ (by omega) (keep_stRound G bs hbs s h)
    · exact h
theorem keep_stable (s : σ) (h : K s) : K (stable M n s) := by
  unfold stable
  exact keep_stLoop G _ _ _ (by omega) (keep_insSort G _ _ _ (Nat.le_refl _) (keep_stBlocks G _ _ _ h))
end
end Go.Proofs.Ytjammaglboehcaa

namespace Go.Proofs.Ytjammaglboehcaa
set_option linter.unusedVariables false

/-- A count that a question or a swap moves by one at most. -/
structure Costs {σ : Type} (M : Mach σ) (c : σ → Nat) : Prop where
  tick : ∀ s i j, c (M.tick s i j) ≤ c s + 1
  swap : ∀ s i j, c (M.swap s i j) ≤ c s + 1

section
variable {σ : Type} {M : Mach σ} {c : σ → Nat} (G : Costs M c)
include G
theorem cost_insInner (a : Nat) : ∀ (j : Nat) (s : σ), c (insInner M a j s) ≤ c s + 2 * (j - a)
  | 0, s => by show c s ≤ _; omega
  | j + 1, s => by
    unfold insInner
    have h1 := G.tick s (j + 1) j
    have h2 := G.swap (M.tick s (j + 1) j) (j + 1) j
    split
    · split
      · have h3 := cost_insInner a j (M.swap (M.tick s (j + 1) j) (j + 1) j)
        omega
      · omega
    · omega
theorem cost_insOuter (a : Nat) : ∀ (k i : Nat) (s : σ), c (insOuter M a k i s) ≤ c s + k * (2 * (i + k - a))
  | 0, _, s => by show c s ≤ _; omega
  | k + 1, i, s => by
    show c (insOuter M a k (i + 1) (insInner M a i s)) ≤ _
    have h1 := cost_insInner G a i s
    have h2 := cost_insOuter a k (i + 1) (insInner M a i s)
    rw [show i + 1 + k - a = i + (k + 1) - a by omega] at h2
    have h3 : (k + 1) * (2 * (i + (k + 1) - a)) = k * (2 * (i + (k + 1) - a)) + 2 * (i + (k + 1) - a) := Nat.succ_mul _ _
    omega
theorem cost_insSort (a b : Nat) (s : σ) : c (insSort M a b s) ≤ c s + (b - a - 1) * (2 * (b - a)) := by
  unfold insSort
  have h := cost_insOuter G a (b - (a + 1)) (a + 1) s
  rcases Nat.lt_or_ge a b with h1 | h1
  · rw [show a + 1 + (b - (a + 1)) - a = b - a by omega, show b - (a + 1) = b - a - 1 by omega] at h
    rw [show b - (a + 1) = b - a - 1 by omega]; exact h
  · rw [show b - (a + 1) = 0 by omega] at h ⊢
    omega
theorem cost_swapR (a b : Nat) : ∀ (k i : Nat) (s : σ), c (swapR M a b k i s) ≤ c s + k
  | 0, _, s => Nat.le_refl _
  | k + 1, i, s => by
    show c (swapR M a b k (i + 1) (M.swap s (a + i) (b + i))) ≤ _
    have h1 := cost_swapR a b k (i + 1) (M.swap s (a + i) (b + i))
    have h2 := G.swap s (a + i) (b + i)
    omega
theorem cost_swapDn : ∀ (k x : Nat) (s : σ), c (swapDn M k x s) ≤ c s + k
  | 0, _, s => Nat.le_refl _
  | k + 1, x, s => by
    show c (swapDn M k (x - 1) (M.swap s x (x - 1))) ≤ _
    have h1 := cost_swapDn k (x - 1) (M.swap s x (x - 1))
    have h2 := G.swap s x (x - 1)
    omega
theorem cost_rotL (m : Nat) : ∀ (f i j : Nat) (s : σ), c (rotL M m f i j s) ≤ c s + (i + j)
  | 0, _, _, s => by show c s ≤ _; omega
  | f + 1, i, j, s => by
    unfold rotL
    split
    · have := cost_swapR G (m - i) m i 0 s; omega
    · split
      · have h1 := cost_swapR G (m - i) m j 0 s
        have h2 := cost_rotL m f (i - j) j (swapR M (m - i) m j 0 s)
        omega
      · have h1 := cost_swapR G (m - i) (m + j - i) i 0 s
        have h2 := cost_rotL m f i (j - i) (swapR M (m - i) (m + j - i) i 0 s)
        omega
theorem cost_rotate (a m b : Nat) (s : σ) : c (rotate M a m b s) ≤ c s + ((m - a) + (b - m)) := cost_rotL G m _ _ _ s
theorem cost_bsL (x y : Nat → Nat) (up : Bool) : ∀ (f i j : Nat) (s : σ), c (bsL M x y up f i j s).2 ≤ c s + f
  | 0, _, _, s => Nat.le_refl _
  | f + 1, i, j, s => by
    have h0 := G.tick s (x ((i + j) / 2)) (y ((i + j) / 2))
    by_cases hlt : i < j
    · by_cases hv : M.less s (x ((i + j) / 2)) (y ((i + j) / 2)) = up
      · rw [bsL_up hlt hv]
        have h1 := cost_bsL x y up f ((i + j) / 2 + 1) j (M.tick s (x ((i + j) / 2)) (y ((i + j) / 2))); omega
      · rw [bsL_dn hlt hv]
        have h1 := cost_bsL x y up f i ((i + j) / 2) (M.tick s (x ((i + j) / 2)) (y ((i + j) / 2))); omega
    · rw [bsL_stop hlt]; show c s ≤ _; omega
theorem cost_symMStart (a m b : Nat) (s : σ) (h1 : a < m) (h2 : m < b) : c (symMStart M a m b s).2 ≤ c s + (b - a) := by
  unfold symMStart bsr
  split
  · refine Nat.le_trans (cost_bsL G _ _ _ _ _ _ _) ?_; omega
  · refine Nat.le_trans (cost_bsL G _ _ _ _ _ _ _) ?_; omega
omit G in
theorem symMStart_range (a m b : Nat) (s : σ) (h1 : a < m) (h2 : m < b) : a ≤ (symMStart M a m b s).1 ∧ (symMStart M a m b s).1 ≤ m ∧ (symMStart M a m b s).1 ≤ (a + b) / 2 ∧ (a + b) / 2 + m - b ≤ (symMStart M a m b s).1 := by
  unfold symMStart bsr
  split
  · have hR := bsL_range (M := M) (x := fun c => (a + b) / 2 + m - 1 - c) (y := fun c => c) (up := false) ((a + b) / 2 - ((a + b) / 2 + m - b)) ((a + b) / 2 + m - b) ((a + b) / 2) s (by omega)
    omega
  · have hR := bsL_range (M := M) (x := fun c => (a + b) / 2 + m - 1 - c) (y := fun c => c) (up := false) (m - a) a m s (by omega)
    omega
theorem cost_symM : ∀ (f d a m b : Nat) (s : σ), a < m → m < b → b - a ≤ 2 ^ d → c (symM M f a m b s) ≤ c s + 2 * ((b - a) * d)
  | 0, _, _, _, _, s, _, _, _ => by show c s ≤ _; omega
  | f + 1, 0, a, m, b, s, h1, h2, h3 => by have : b - a ≤ 1 := h3; omega
  | f + 1, d + 1, a, m, b, s, h1, h2, h3 => by
    have hd : (b - a) * (d + 1) = (b - a) * d + (b - a) := Nat.mul_succ _ _
    rw [Nat.pow_succ] at h3
    unfold symM
    split
    · have hR := bsL_range (M := M) (x := fun h => h) (y := fun _ => a) (up := true) (b - m) m b s (by omega)
      have e1 := cost_bsL G (fun h => h) (fun _ => a) true (b - m) m b s
      have e2 := cost_swapR G a (a + 1) ((bsL M (fun h => h) (fun _ => a) true (b - m) m b s).1 - 1 - a) 0 (bsL M (fun h => h) (fun _ => a) true (b - m) m b s).2
      unfold bsr
      dsimp only
      omega
    · split
      · have hR := bsL_range (M := M) (x := fun _ => m) (y := fun h => h) (up := false) (m - a) a m s (by omega)
        have e1 := cost_bsL G (fun _ => m) (fun h => h) false (m - a) a m s
        have e2 := cost_swapDn G (m - (bsL M (fun _ => m) (fun h => h) false (m - a) a m s).1) m (bsL M (fun _ => m) (fun h => h) false (m - a) a m s).2
        unfold bsr
        dsimp only
        omega
      · dsimp only
        have hs := cost_symMStart G a m b s h1 h2
        have hr := symMStart_range (M := M) a m b s h1 h2
        generalize (symMStart M a m b s).1 = st at *
        generalize (symMStart M a m b s).2 = t at *
        have r1 : c (if st < m ∧ m < (a + b) / 2 + m - st then rotate M st m ((a + b) / 2 + m - st) t else t) ≤ c t + (b - a) := by
          split
          · have := cost_rotate G st m ((a + b) / 2 + m - st) t; omega
          · omega
        generalize (if st < m ∧ m < (a + b) / 2 + m - st then rotate M st m ((a + b) / 2 + m - st) t else t) = s1 at *
        have r2 : c (if a < st ∧ st < (a + b) / 2 then symM M f a st ((a + b) / 2) s1 else s1) ≤ c s1 + 2 * (((a + b) / 2 - a) * d) := by
          split
          · rename_i cc
            exact cost_symM f d a st ((a + b) / 2) s1 cc.1 cc.2 (by omega)
          · omega
        generalize (if a < st ∧ st < (a + b) / 2 then symM M f a st ((a + b) / 2) s1 else s1) = s2 at *
        have r3 : c (if (a + b) / 2 < (a + b) / 2 + m - st ∧ (a + b) / 2 + m - st < b then symM M f ((a + b) / 2) ((a + b) / 2 + m - st) b s2 else s2) ≤ c s2 + 2 * ((b - (a + b) / 2) * d) := by
          split
          · rename_i cc
            exact cost_symM f d ((a + b) / 2) _ b s2 cc.1 cc.2 (by omega)
          · omega
        have r4 : ((a + b) / 2 - a) * d + (b - (a + b) / 2) * d = (b - a) * d := by
          rw [← Nat.add_mul, show (a + b) / 2 - a + (b - (a + b) / 2) = b - a by omega]
        omega
theorem cost_symMerge (d a m b : Nat) (s : σ) (h1 : a < m) (h2 : m < b) (h3 : b - a ≤ 2 ^ d) : c (symMerge M a m b s) ≤ c s + 2 * ((b - a) * d) := cost_symM G _ d a m b s h1 h2 h3
theorem cost_stBlocks (n : Nat) : ∀ (k a : Nat) (s : σ), a ≤ n → a ≤ (stBlocks M n k a s).1 ∧ (stBlocks M n k a s).1 ≤ n ∧ c (stBlocks M n k a s).2 ≤ c s + 38 * ((stBlocks M n k a s).1 - a)
  | 0, a, s, h => ⟨Nat.le_refl _, h, by show c s ≤ _; omega⟩
  | k + 1, a, s, h => by
    unfold stBlocks
    split
    · rename_i h2
      have h1 := cost_insSort G a (a + 20) s
      rw [show a + 20 - a = 20 by omega] at h1
      have h3 := cost_stBlocks n k (a + 20) (insSort M a (a + 20) s) h2
      omega
    · exact ⟨Nat.le_refl _, h, by show c s ≤ _; omega⟩
theorem cost_stPass (n bs d : Nat) (hb : 0 < bs) (hd : n ≤ 2 ^ d) : ∀ (k a : Nat) (s : σ), a ≤ n → a ≤ (stPass M n bs k a s).1 ∧ (stPass M n bs k a s).1 ≤ n ∧ c (stPass M n bs k a s).2 ≤ c s + 2 * (((stPass M n bs k a s).1 - a) * d)
  | 0, a, s, h => ⟨Nat.le_refl _, h, by show c s ≤ _; omega⟩
  | k + 1, a, s, h => by
    unfold stPass
    split
    · rename_i h2
      have h1 := cost_symMerge G d a (a + bs) (a + 2 * bs) s (by omega) (by omega) (by omega)
      have h3 := cost_stPass n bs d hb hd k (a + 2 * bs) (symMerge M a (a + bs) (a + 2 * bs) s) h2
      generalize stPass M n bs k (a + 2 * bs) (symMerge M a (a + bs) (a + 2 * bs) s) = r at *
      have h4 : (r.1 - a) * d = (r.1 - (a + 2 * bs)) * d + (a + 2 * bs - a) * d := by
        rw [← Nat.add_mul, show r.1 - (a + 2 * bs) + (a + 2 * bs - a) = r.1 - a by omega]
      omega
    · exact ⟨Nat.le_refl _, h, by show c s ≤ _; omega⟩
theorem cost_stRound (n bs d : Nat) (hb : 0 < bs) (hd : n ≤ 2 ^ d) (s : σ) : c (stRound M n bs s) ≤ c s + 2 * (n * d) := by
  unfold stRound
  have h1 := cost_stPass G n bs d hb hd n 0 s (Nat.zero_le _)
  generalize stPass M n bs n 0 s = r at *
  dsimp only
  have h4 : n * d = (r.1 - 0) * d + (n - r.1) * d := by rw [← Nat.add_mul, show r.1 - 0 + (n - r.1) = n by omega]
  split
  · have h2 := cost_symMerge G d r.1 (r.1 + bs) n r.2 (by omega) (by omega) (by omega)
    omega
  · omega
theorem cost_stLoop (n d : Nat) (hd : n ≤ 2 ^ d) : ∀ (k P bs : Nat) (s : σ), 0 < bs → n ≤ bs * 2 ^ P → c (stLoop M n k bs s) ≤ c s + P * (2 * (n * d))
  | 0, _, _, s, _, _ => by show c s ≤ _; omega
  | k + 1, P, bs, s, hb, hP => by
    unfold stLoop
    split
    · rename_i hlt
      cases P with
      | zero => rw [Nat.pow_zero, Nat.mul_one] at hP; omega
      | succ P =>
        have h1 := cost_stRound G n bs d hb hd s
        have h2 := cost_stLoop n d hd k P (bs * 2) (stRound M n bs s) (by omega) (by rw [Nat.mul_assoc, Nat.mul_comm 2, ← Nat.pow_succ]; exact hP)
        have h3 : (P + 1) * (2 * (n * d)) = P * (2 * (n * d)) + 2 * (n * d) := Nat.succ_mul _ _
        omega
    · omega
theorem cost_stable (n : Nat) (s : σ) (hn : n ≤ 1048576) : c (stable M n s) ≤ c s + 3000000000000 := by
  unfold stable
  have h1 := cost_stBlocks G n n 0 s (Nat.zero_le _)
  generalize stBlocks M n n 0 s = r at *
  dsimp only
  have h2 := cost_insSort G r.1 n r.2
  have h3 := cost_stLoop G n 20 (by omega) n 16 20 (insSort M r.1 n r.2) (by omega) (by omega)
  have h4 : (n - r.1 - 1) * (2 * (n - r.1)) ≤ 1048576 * (2 * 1048576) := Nat.mul_le_mul (by omega) (by omega)
  omega
end
end Go.Proofs.Ytjammaglboehcaa

namespace Go.Proofs.Ytjammaglboehcaa
set_option linter.unusedVariables false

/-- A function with two places exchanged. -/
def swapF (d : Nat → Nat) (i j : Nat) : Nat → Nat := fun k => if k = i then d j else if k = j then d i else d k

/-- What stands where in a machine's state: Less asks a table, Swap exchanges. -/
structure View {σ : Type} (M : Mach σ) (T : Nat → Nat → Bool) (v : σ → Nat → Nat) : Prop where
  less : ∀ s i j, M.less s i j = T (v s i) (v s j)
  tick : ∀ s i j, v (M.tick s i j) = v s
  swap : ∀ s i j, v (M.swap s i j) = swapF (v s) i j

/-- [lo, m) and [m, hi) exchanged. -/
def rotF (lo m hi : Nat) (d : Nat → Nat) : Nat → Nat := fun x => if x < lo ∨ hi ≤ x then d x else if x < lo + (hi - m) then d (x + (m - lo)) else d (x - (hi - m))

section
variable {σ : Type} {M : Mach σ} {T : Nat → Nat → Bool} {v : σ → Nat → Nat} (V : View M T v)
include V

theorem v_swapR (a b : Nat) : ∀ (k i : Nat) (s : σ), a + k ≤ b → v (swapR M a b k i s) = fun x => if a + i ≤ x ∧ x < a + i + k then v s (x - a + b) else if b + i ≤ x ∧ x < b + i + k then v s (x - b + a) else v s x
  | 0, i, s, h => by
    funext x
    show v s x = _
    rw [if_neg (by omega), if_neg (by omega)]
  | k + 1, i, s, h => by
    show v (swapR M a b k (i + 1) (M.swap s (a + i) (b + i))) = _
    rw [v_swapR a b k (i + 1) _ (by omega), V.swap]
    funext x
    unfold swapF
    by_cases h1 : x = a + i
    · subst h1
      rw [if_neg (by omega), if_neg (by omega), if_pos rfl, if_pos (by omega), show a + i - a + b = b + i by omega]
    · by_cases h2 : x = b + i
      · subst h2
        rw [if_neg (by omega), if_neg (by omega), if_neg h1, if_pos rfl, if_neg (by omega), if_pos (by omega), show b + i - b + a = a + i by omega]
      · by_cases h3 : a + (i + 1) ≤ x ∧ x < a + (i + 1) + k
        · rw [if_pos h3, if_neg (by omega), if_neg (by omega), if_pos (by omega)]
        · rw [if_neg h3]
          by_cases h4 : b + (i + 1) ≤ x ∧ x < b + (i + 1) + k
          · rw [if_pos h4, if_neg (by omega), if_neg (by omega), if_neg (by omega), if_pos (by omega)]
          · rw [if_neg h4, if_neg h1, if_neg h2, if_neg (by omega), if_neg (by omega)]

theorem v_swapAdj (a : Nat) : ∀ (k i : Nat) (s : σ), v (swapR M a (a + 1) k i s) = rotF (a + i) (a + i + 1) (a + i + 1 + k) (v s)
  | 0, i, s => by
    funext x
    show v s x = _
    unfold rotF
    by_cases h : x < a + i ∨ a + i + 1 + 0 ≤ x
    · rw [if_pos h]
    · rw [if_neg h, if_neg (by omega), show x - (a + i + 1 + 0 - (a + i + 1)) = x by omega]
  | k + 1, i, s => by
    show v (swapR M a (a + 1) k (i + 1) (M.swap s (a + i) (a + 1 + i))) = _
    rw [v_swapAdj a k (i + 1) _, V.swap]
    funext x
    unfold rotF swapF
    by_cases h1 : x = a + i
    · subst h1
      rw [if_pos (by omega), if_pos rfl, if_neg (by omega), if_pos (by omega)]
      congr 1; omega
    · by_cases h2 : x < a + i ∨ a + i + 1 + (k + 1) ≤ x
      · rw [if_pos (show x < a + (i + 1) ∨ a + (i + 1) + 1 + k ≤ x by omega), if_neg h1, if_neg (by omega), if_pos h2]
      · rw [if_neg (show ¬ (x < a + (i + 1) ∨ a + (i + 1) + 1 + k ≤ x) by omega), if_neg h2]
        by_cases h3 : x < a + i + (k + 1)
        · rw [if_pos (show x < a + (i + 1) + (a + (i + 1) + 1 + k - (a + (i + 1) + 1)) by omega), if_neg (by omega), if_neg (by omega), if_pos (by omega)]
          congr 1; omega
        · rw [if_neg (show ¬ x < a + (i + 1) + (a + (i + 1) + 1 + k - (a + (i + 1) + 1)) by omega), if_neg (by omega), if_pos (by omega), if_neg (by omega)]
          congr 1; omega

theorem v_swapDn : ∀ (k x : Nat) (s : σ), k ≤ x → v (swapDn M k x s) = rotF (x - k) x (x + 1) (v s)
  | 0, x, s, h => by
    funext y
    show v s y = _
    unfold rotF
    by_cases h : y < x - 0 ∨ x + 1 ≤ y
    · rw [if_pos h]
    · rw [if_neg h, if_pos (by omega)]; congr 1; omega
  | k + 1, x, s, h => by
    show v (swapDn M k (x - 1) (M.swap s x (x - 1))) = _
    rw [v_swapDn k (x - 1) _ (by omega), V.swap]
    funext y
    unfold rotF swapF
    by_cases h1 : y = x
    · subst h1
      rw [if_pos (by omega), if_pos rfl, if_neg (by omega), if_neg (by omega)]
      congr 1; omega
    · by_cases h2 : y < x - (k + 1) ∨ x + 1 ≤ y
      · rw [if_pos (by omega), if_neg h1, if_neg (by omega), if_pos h2]
      · rw [if_neg (by omega), if_neg h2]
        by_cases h3 : y = x - (k + 1)
        · subst h3
          rw [if_pos (by omega), if_neg (by omega), if_pos (by omega), if_pos (by omega)]
          congr 1; omega
        · rw [if_neg (by omega), if_neg (by omega), if_neg (by omega), if_neg (by omega)]
          congr 1; omega

theorem v_rotL (m : Nat) : ∀ (f i j : Nat) (s : σ), 1 ≤ i → 1 ≤ j → i ≤ m → i + j ≤ f → v (rotL M m f i j s) = rotF (m - i) m (m + j) (v s)
  | 0, i, j, s, h1, h2, h3, h4 => absurd h4 (by omega)
  | f + 1, i, j, s, h1, h2, h3, h4 => by
    unfold rotL
    by_cases hij : i = j
    · subst hij
      rw [if_pos rfl, v_swapR V _ _ _ _ _ (by omega)]
      funext x
      unfold rotF
      by_cases c1 : x < m - i ∨ m + i ≤ x
      · rw [if_pos c1, if_neg (by omega), if_neg (by omega)]
      · rw [if_neg c1]
        by_cases c2 : x < m
        · rw [if_pos (by omega), if_pos (by omega)]; congr 1; omega
        · rw [if_neg (by omega), if_pos (by omega), if_neg (by omega)]; congr 1; omega
    · rw [if_neg hij]
      by_cases hgt : j < i
      · rw [if_pos hgt, v_rotL m f _ _ _ (by omega) h2 (by omega) (by omega), v_swapR V _ _ _ _ _ (by omega)]
        funext x
        unfold rotF
        dsimp only
        by_cases c1 : x < m - i ∨ m + j ≤ x
        · rw [if_pos (by omega), if_neg (by omega), if_neg (by omega), if_pos c1]
        · rw [if_neg c1]
          by_cases c2 : x < m - (i - j)
          · rw [if_pos (by omega), if_pos (by omega), if_pos (by omega)]; congr 1; omega
          · rw [if_neg (by omega)]
            by_cases c3 : x < m - (i - j) + (m + j - m)
            · rw [if_pos c3]
              by_cases c4 : m ≤ x + (m - (m - (i - j)))
              · rw [if_neg (by omega), if_pos (by omega), if_neg (by omega)]; congr 1; omega
              · exfalso; omega
            · rw [if_neg c3]
              rw [if_neg (by omega), if_neg (by omega), if_neg (by omega)]
      · rw [if_neg hgt, v_rotL m f _ _ _ h1 (by omega) h3 (by omega), v_swapR V _ _ _ _ _ (by omega)]
        funext x
        unfold rotF
        dsimp only
        by_cases c1 : x < m - i ∨ m + j ≤ x
        · rw [if_pos (by omega), if_neg (by omega), if_neg (by omega), if_pos c1]
        · rw [if_neg c1]
          by_cases c2 : m + (j - i) ≤ x
          · rw [if_pos (by omega), if_neg (by omega), if_pos (by omega), if_neg (by omega)]; congr 1; omega
          · rw [if_neg (by omega)]
            by_cases c3 : x < m - i + (m + (j - i) - m)
            · rw [if_pos c3, if_neg (by omega), if_neg (by omega), if_pos (by omega)]
            · rw [if_neg c3, if_pos (by omega), if_pos (by omega)]; congr 1; omega

theorem v_rotate (a m b : Nat) (s : σ) (h1 : a < m) (h2 : m < b) : v (rotate M a m b s) = rotF a m b (v s) := by
  unfold rotate
  rw [v_rotL V m _ _ _ _ (by omega) (by omega) (by omega) (Nat.le_refl _), show m - (m - a) = a by omega, show m + (b - m) = b by omega]

theorem v_bsL (x y : Nat → Nat) (up : Bool) : ∀ (f i j : Nat) (s : σ), v (bsL M x y up f i j s).2 = v s
  | 0, _, _, _ => rfl
  | f + 1, i, j, s => by
    by_cases hlt : i < j
    · by_cases hv : M.less s (x ((i + j) / 2)) (y ((i + j) / 2)) = up
      · rw [bsL_up hlt hv, v_bsL x y up f, V.tick]
      · rw [bsL_dn hlt hv, v_bsL x y up f, V.tick]
    · rw [bsL_stop hlt]

/-- Where a search ends: the answer just below is 'up', the one there is not. -/
theorem bsL_ends (x y : Nat → Nat) (up : Bool) : ∀ (f i j : Nat) (s : σ), i ≤ j → j - i ≤ f →
    (i < (bsL M x y up f i j s).1 → T (v s (x ((bsL M x y up f i j s).1 - 1))) (v s (y ((bsL M x y up f i j s).1 - 1))) = up) ∧
    ((bsL M x y up f i j s).1 < j → T (v s (x (bsL M x y up f i j s).1)) (v s (y (bsL M x y up f i j s).1)) ≠ up)
  | 0, i, j, s, h1, h2 => ⟨fun h => absurd h (Nat.lt_irrefl _), fun h => absurd h (by show ¬ i < j; omega)⟩
  | f + 1, i, j, s, h1, h2 => by
    by_cases hlt : i < j
    · by_cases hv : M.less s (x ((i + j) / 2)) (y ((i + j) / 2)) = up
      · rw [bsL_up hlt hv]
        have ih := bsL_ends x y up f ((i + j) / 2 + 1) j (M.tick s (x ((i + j) / 2)) (y ((i + j) / 2))) (by omega) (by omega)
        have hr := bsL_range (M := M) (x := x) (y := y) (up := up) f ((i + j) / 2 + 1) j (M.tick s (x ((i + j) / 2)) (y ((i + j) / 2))) (by omega)
        rw [V.tick] at ih
        refine ⟨fun h => ?_, ih.2⟩
        rcases Nat.lt_or_ge ((i + j) / 2 + 1) (bsL M x y up f ((i + j) / 2 + 1) j (M.tick s (x ((i + j) / 2)) (y ((i + j) / 2)))).1 with h3 | h3
        · exact ih.1 h3
        · rw [show (bsL M x y up f ((i + j) / 2 + 1) j (M.tick s (x ((i + j) / 2)) (y ((i + j) / 2)))).1 - 1 = (i + j) / 2 by omega, ← V.less]; exact hv
      · rw [bsL_dn hlt hv]
        have ih := bsL_ends x y up f i ((i + j) / 2) (M.tick s (x ((i + j) / 2)) (y ((i + j) / 2))) (by omega) (by omega)
        have hr := bsL_range (M := M) (x := x) (y := y) (up := up) f i ((i + j) / 2) (M.tick s (x ((i + j) / 2)) (y ((i + j) / 2))) (by omega)
        rw [V.tick] at ih
        refine ⟨ih.1, fun h => ?_⟩
        rcases Nat.lt_or_ge (bsL M x y up f i ((i + j) / 2) (M.tick s (x ((i + j) / 2)) (y ((i + j) / 2)))).1 ((i + j) / 2) with h3 | h3
        · exact ih.2 h3
        · rw [show (bsL M x y up f i ((i + j) / 2) (M.tick s (x ((i + j) / 2)) (y ((i + j) / 2)))).1 = (i + j) / 2 by omega, ← V.less]; exact hv
    · rw [bsL_stop hlt]
      exact ⟨fun h => absurd h (Nat.lt_irrefl _), fun h => absurd h hlt⟩
end
end Go.Proofs.Ytjammaglboehcaa

namespace Go.Proofs.Ytjammaglboehcaa
set_option linter.unusedVariables false

/-- A strict weak order of all numbers. -/
structure Swo (T : Nat → Nat → Bool) : Prop where
  irrefl : ∀ i, T i i = false
  trans : ∀ i j k, T i j = true → T j k = true → T i k = true
  pass : ∀ i j k, T j i = false → T k j = false → T k i = false

/-- i comes before j, or is equal and has the lesser number. -/
def Bf (T : Nat → Nat → Bool) (i j : Nat) : Prop := T i j = true ∨ (T j i = false ∧ i < j)

theorem Bf.trans {T : Nat → Nat → Bool} (S : Swo T) {i j k : Nat} (h1 : Bf T i j) (h2 : Bf T j k) : Bf T i k := by
  rcases h1 with h1 | ⟨h1, h1'⟩
  · rcases h2 with h2 | ⟨h2, h2'⟩
    · exact .inl (S.trans i j k h1 h2)
    · refine .inl ?_
      cases h : T i k
      · have := S.pass j k i h2 h
        rw [h1] at this; cases this
      · rfl
  · rcases h2 with h2 | ⟨h2, h2'⟩
    · refine .inl ?_
      cases h : T i k
      · have := S.pass k i j h h1
        rw [h2] at this; cases this
      · rfl
    · exact .inr ⟨S.pass i j k h1 h2, by omega⟩
theorem Bf.ne {T : Nat → Nat → Bool} (S : Swo T) {i : Nat} (h : Bf T i i) : False := by
  rcases h with h | ⟨_, h⟩
  · rw [S.irrefl] at h; cases h
  · exact absurd h (Nat.lt_irrefl _)
theorem Bf.of_less {T : Nat → Nat → Bool} {x y : Nat} (h : T y x = true) : Bf T y x := .inl h
theorem Bf.of_not {T : Nat → Nat → Bool} {x y : Nat} (hxy : x < y) (h : T y x = false) : Bf T x y := .inr ⟨h, hxy⟩
theorem Bf.total {T : Nat → Nat → Bool} {x y : Nat} (h : x ≠ y) : Bf T x y ∨ Bf T y x := by
  rcases Nat.lt_or_gt_of_ne h with h | h
  · cases hT : T y x
    · exact .inl (.of_not h hT)
    · exact .inr (.of_less hT)
  · cases hT : T x y
    · exact .inr (.of_not h hT)
    · exact .inl (.of_less hT)

/-- d is in order between lo and hi. -/
def Ord (T : Nat → Nat → Bool) (d : Nat → Nat) (lo hi : Nat) : Prop := ∀ x y, lo ≤ x → x < y → y < hi → Bf T (d x) (d y)
theorem Ord.sub {T : Nat → Nat → Bool} {d : Nat → Nat} {lo hi lo' hi' : Nat} (h : Ord T d lo hi) (h1 : lo ≤ lo') (h2 : hi' ≤ hi) : Ord T d lo' hi' := fun x y a b c => h x y (by omega) b (by omega)
theorem Ord.le {T : Nat → Nat → Bool} {d : Nat → Nat} {lo hi : Nat} (S : Swo T) (h : Ord T d lo hi) {x y z : Nat} (hz : Bf T z (d x)) (h1 : lo ≤ x) (h2 : x ≤ y) (h3 : y < hi) : Bf T z (d y) := by
  rcases Nat.lt_or_ge x y with h4 | h4
  · exact hz.trans S (h x y h1 h4 h3)
  · obtain rfl : x = y := by omega
    exact hz
theorem Ord.ge {T : Nat → Nat → Bool} {d : Nat → Nat} {lo hi : Nat} (S : Swo T) (h : Ord T d lo hi) {x y z : Nat} (hz : Bf T (d y) z) (h1 : lo ≤ x) (h2 : x ≤ y) (h3 : y < hi) : Bf T (d x) z := by
  rcases Nat.lt_or_ge x y with h4 | h4
  · exact (h x y h1 h4 h3).trans S hz
  · obtain rfl : x = y := by omega
    exact hz

/-- d' has what d has between a and b, and is d elsewhere. -/
def Into (a b : Nat) (d d' : Nat → Nat) : Prop := (∀ k, a ≤ k → k < b → ∃ l, a ≤ l ∧ l < b ∧ d' k = d l) ∧ (∀ k, ¬ (a ≤ k ∧ k < b) → d' k = d k)
theorem Into.refl (a b : Nat) (d : Nat → Nat) : Into a b d d := ⟨fun k h1 h2 => ⟨k, h1, h2, rfl⟩, fun _ _ => rfl⟩
theorem Into.trans {a b : Nat} {d d' d'' : Nat → Nat} (h : Into a b d d') (h' : Into a b d' d'') : Into a b d d'' :=
  ⟨fun k h1 h2 => by
    obtain ⟨l, l1, l2, e⟩ := h'.1 k h1 h2
    obtain ⟨l', l1', l2', e'⟩ := h.1 l l1 l2
    exact ⟨l', l1', l2', e.trans e'⟩, fun k hk => (h'.2 k hk).trans (h.2 k hk)⟩
theorem Into.wide {a b a' b' : Nat} {d d' : Nat → Nat} (h : Into a b d d') (h1 : a' ≤ a) (h2 : b ≤ b') : Into a' b' d d' :=
  ⟨fun k k1 k2 => by
    by_cases hk : a ≤ k ∧ k < b
    · obtain ⟨l, l1, l2, e⟩ := h.1 k hk.1 hk.2
      exact ⟨l, by omega, by omega, e⟩
    · exact ⟨k, k1, k2, h.2 k hk⟩, fun k hk => h.2 k (by omega)⟩

/-! ### Rotations -/
section
variable {lo m hi : Nat} {d : Nat → Nat} {x : Nat}
theorem rotF_out (h : x < lo ∨ hi ≤ x) : rotF lo m hi d x = d x := by unfold rotF; rw [if_pos h]
theorem rotF_fst (h1 : lo ≤ x) (h2 : x < lo + (hi - m)) (h3 : m ≤ hi) (h4 : lo ≤ m) : rotF lo m hi d x = d (x + (m - lo)) := by unfold rotF; rw [if_neg (by omega), if_pos h2]
theorem rotF_snd (h1 : lo + (hi - m) ≤ x) (h2 : x < hi) (h3 : m ≤ hi) (h4 : lo ≤ m) : rotF lo m hi d x = d (x - (hi - m)) := by unfold rotF; rw [if_neg (by omega), if_neg (by omega)]
theorem rotF_left (h4 : lo ≤ m) : rotF lo m m d = d := by
  funext x
  rcases Nat.lt_or_ge x lo with h | h
  · exact rotF_out (.inl h)
  · rcases Nat.lt_or_ge x m with h' | h'
    · rw [rotF_snd (by omega) h' (Nat.le_refl _) h4, Nat.sub_self, Nat.sub_zero]
    · exact rotF_out (.inr h')
theorem rotF_right (h3 : m ≤ hi) : rotF m m hi d = d := by
  funext x
  rcases Nat.lt_or_ge x m with h | h
  · exact rotF_out (.inl h)
  · rcases Nat.lt_or_ge x hi with h' | h'
    · rw [rotF_fst h (by omega) h3 (Nat.le_refl _), Nat.sub_self, Nat.add_zero]
    · exact rotF_out (.inr h')
theorem rot_into {a b : Nat} (h1 : a ≤ lo) (h2 : lo ≤ m) (h3 : m ≤ hi) (h4 : hi ≤ b) : Into a b d (rotF lo m hi d) :=
  ⟨fun k k1 k2 => by
    by_cases c1 : k < lo ∨ hi ≤ k
    · exact ⟨k, k1, k2, rotF_out c1⟩
    · by_cases c2 : k < lo + (hi - m)
      · exact ⟨k + (m - lo), by omega, by omega, rotF_fst (by omega) c2 h3 h2⟩
      · exact ⟨k - (hi - m), by omega, by omega, rotF_snd (by omega) (by omega) h3 h2⟩, fun k hk => rotF_out (by omega)⟩

/-- Two runs in order, of which [lo, m) and [m, hi) change places. -/
theorem ord_rot {T : Nat → Nat → Bool} {a b : Nat} (h1 : a ≤ lo) (h2 : lo ≤ m) (h3 : m ≤ hi) (h4 : hi ≤ b) (hl : Ord T d a m) (hr : Ord T d m b)
    (c1 : ∀ l k, a ≤ l → l < lo → m ≤ k → k < b → Bf T (d l) (d k)) (c2 : ∀ l k, lo ≤ l → l < m → m ≤ k → k < hi → Bf T (d k) (d l)) (c3 : ∀ l k, lo ≤ l → l < m → hi ≤ k → k < b → Bf T (d l) (d k)) :
    Ord T (rotF lo m hi d) a b := by
  intro x y hx hxy hy
  rcases Nat.lt_or_ge x lo with x1 | x1
  · rw [rotF_out (.inl x1)]
    rcases Nat.lt_or_ge y lo with y1 | y1
    · rw [rotF_out (.inl y1)]; exact hl x y hx hxy (by omega)
    · rcases Nat.lt_or_ge y hi with y2 | y2
      · rcases Nat.lt_or_ge y (lo + (hi - m)) with y3 | y3
        · rw [rotF_fst y1 y3 h3 h2]; exact c1 _ _ hx x1 (by omega) (by omega)
        · rw [rotF_snd y3 y2 h3 h2]; exact hl _ _ hx (by omega) (by omega)
      · rw [rotF_out (.inr y2)]; exact c1 _ _ hx x1 (by omega) (by omega)
  · rcases Nat.lt_or_ge x hi with x2 | x2
    · rcases Nat.lt_or_ge x (lo + (hi - m)) with x3 | x3
      · rw [rotF_fst x1 x3 h3 h2]
        rcases Nat.lt_or_ge y hi with y2 | y2
        · rcases Nat.lt_or_ge y (lo + (hi - m)) with y3 | y3
          · rw [rotF_fst (by omega) y3 h3 h2]; exact hr _ _ (by omega) (by omega) (by omega)
          · rw [rotF_snd y3 y2 h3 h2]; exact c2 _ _ (by omega) (by omega) (by omega) (by omega)
        · rw [rotF_out (.inr y2)]; exact hr _ _ (by omega) (by omega) (by omega)
      · rw [rotF_snd x3 x2 h3 h2]
        rcases Nat.lt_or_ge y hi with y2 | y2
        · rw [rotF_snd (by omega) y2 h3 h2]; exact hl _ _ (by omega) (by omega) (by omega)
        · rw [rotF_out (.inr y2)]; exact c3 _ _ (by omega) (by omega) y2 hy
    · rw [rotF_out (.inr x2), rotF_out (.inr (by omega))]; exact hr _ _ (by omega) hxy hy
end

/-! ### symMerge -/
section
variable {σ : Type} {M : Mach σ} {T : Nat → Nat → Bool} {v : σ → Nat → Nat}

/-- What a merge does: two runs in order, the left one of lesser numbers, become one. -/
def Merges (T : Nat → Nat → Bool) (a m b : Nat) (d d' : Nat → Nat) : Prop :=
  ∀ μ, Ord T d a m → Ord T d m b → (∀ k, a ≤ k → k < m → d k < μ) → (∀ k, m ≤ k → k < b → μ ≤ d k) → Ord T d' a b

theorem symM_one (S : Swo T) (V : View M T v) (f a m b : Nat) (s : σ) (h1 : m = a + 1) (h2 : m < b) : Into a b (v s) (v (symM M (f + 1) a m b s)) ∧ Merges T a m b (v s) (v (symM M (f + 1) a m b s)) := by
  subst h1
  have hsy : symM M (f + 1) a (a + 1) b s = swapR M a (a + 1) ((bsr M (fun h => h) (fun _ => a) true (a + 1) b s).1 - 1 - a) 0 (bsr M (fun h => h) (fun _ => a) true (a + 1) b s).2 := by
    show (if a + 1 - a = 1 then _ else _) = _
    rw [if_pos (by omega)]
  have hE := bsL_ends V (fun h => h) (fun _ => a) true (b - (a + 1)) (a + 1) b s (by omega) (Nat.le_refl _)
  have hR := bsL_range (M := M) (x := fun h => h) (y := fun _ => a) (up := true) (b - (a + 1)) (a + 1) b s (by omega)
  rw [hsy, v_swapAdj V]
  unfold bsr
  rw [v_bsL V]
  generalize (bsL M (fun h => h) (fun _ => a) true (b - (a + 1)) (a + 1) b s).1 = i at hE hR
  rw [show a + 0 + 1 + (i - 1 - a) = i by omega, Nat.add_zero]
  refine ⟨rot_into (Nat.le_refl _) (by omega) (by omega) (by omega), fun μ hl hr t1 t2 => ord_rot (Nat.le_refl _) (by omega) (by omega) (by omega) hl hr (fun l k a1 a2 => absurd a2 (by omega)) (fun l k a1 a2 a3 a4 => ?_) (fun l k a1 a2 a3 a4 => ?_)⟩
  · obtain rfl : l = a := by omega
    exact hr.ge S (Bf.of_less (hE.1 (by omega))) (by omega) (show k ≤ i - 1 by omega) (by omega)
  · obtain rfl : l = a := by omega
    refine hr.le S (Bf.of_not ?_ (by simpa using hE.2 (by omega))) (by omega) a3 a4
    have := t1 l (by omega) (by omega)
    have := t2 i (by omega) (by omega)
    omega

theorem symM_last (S : Swo T) (V : View M T v) (f a m b : Nat) (s : σ) (h1 : a + 1 < m) (h2 : b = m + 1) : Into a b (v s) (v (symM M (f + 1) a m b s)) ∧ Merges T a m b (v s) (v (symM M (f + 1) a m b s)) := by
  subst h2
  have hsy : symM M (f + 1) a m (m + 1) s = swapDn M (m - (bsr M (fun _ => m) (fun h => h) false a m s).1) m (bsr M (fun _ => m) (fun h => h) false a m s).2 := by
    show (if m - a = 1 then _ else if m + 1 - m = 1 then _ else _) = _
    rw [if_neg (by omega), if_pos (by omega)]
  have hE := bsL_ends V (fun _ => m) (fun h => h) false (m - a) a m s (by omega) (Nat.le_refl _)
  have hR := bsL_range (M := M) (x := fun _ => m) (y := fun h => h) (up := false) (m - a) a m s (by omega)
  rw [hsy, v_swapDn V _ _ _ (Nat.sub_le _ _)]
  unfold bsr
  rw [v_bsL V]
  generalize (bsL M (fun _ => m) (fun h => h) false (m - a) a m s).1 = i at hE hR
  rw [show m - (m - i) = i by omega]
  refine ⟨rot_into (by omega) (by omega) (by omega) (Nat.le_refl _), fun μ hl hr t1 t2 => ord_rot (by omega) (by omega) (by omega) (Nat.le_refl _) hl hr (fun l k a1 a2 a3 a4 => ?_) (fun l k a1 a2 a3 a4 => ?_) (fun l k a1 a2 a3 a4 => absurd a4 (by omega))⟩
  · obtain rfl : k = m := by omega
    refine hl.ge S (Bf.of_not ?_ (hE.1 (by omega))) a1 (show l ≤ i - 1 by omega) (by omega)
    have := t1 (i - 1) (by omega) (by omega)
    have := t2 k (by omega) (by omega)
    omega
  · obtain rfl : k = m := by omega
    exact hl.le S (Bf.of_less (by simpa using hE.2 (by omega))) (by omega) a1 a2
end
end Go.Proofs.Ytjammaglboehcaa

namespace Go.Proofs.Ytjammaglboehcaa
set_option linter.unusedVariables false

section
variable {σ : Type} {M : Mach σ} {T : Nat → Nat → Bool} {v : σ → Nat → Nat}

def MergeOk (M : Mach σ) (T : Nat → Nat → Bool) (v : σ → Nat → Nat) (f : Nat) : Prop :=
  ∀ (a m b : Nat) (s : σ), a < m → m < b → b - a ≤ f → Into a b (v s) (v (symM M f a m b s)) ∧ Merges T a m b (v s) (v (symM M f a m b s))

theorem symIf {f : Nat} (IH : MergeOk M T v f) (a m b : Nat) (s : σ) (h1 : a ≤ m) (h2 : m ≤ b) (hf : a < m → m < b → b - a ≤ f) :
    Into a b (v s) (v (if a < m ∧ m < b then symM M f a m b s else s)) ∧ Merges T a m b (v s) (v (if a < m ∧ m < b then symM M f a m b s else s)) := by
  by_cases c : a < m ∧ m < b
  · rw [if_pos c]; exact IH a m b s c.1 c.2 (hf c.1 c.2)
  · rw [if_neg c]
    refine ⟨Into.refl _ _ _, fun μ hl hr _ _ => ?_⟩
    rcases Nat.lt_or_ge a m with h | h
    · obtain rfl : m = b := by omega
      exact hl
    · obtain rfl : a = m := by omega
      exact hr

theorem symTail_spec (S : Swo T) (V : View M T v) {f : Nat} (IH : MergeOk M T v f) (a m b mid st e : Nat) (t : σ) (he : mid + m - st = e) (h1 : a ≤ st) (h2 : st ≤ m) (h3 : st ≤ mid) (h4 : m ≤ e) (h5 : e ≤ b) (ha : a < m) (hb : m < b) (hm1 : a < mid) (hm2 : mid < b) (hf : b - a ≤ f + 1) :
    Into a b (v t) (v (symTail M f a m b mid st t)) ∧
    ∀ μ, Ord T (v t) a m → Ord T (v t) m b → (∀ k, a ≤ k → k < m → v t k < μ) → (∀ k, m ≤ k → k < b → μ ≤ v t k) →
      (∀ l k, a ≤ l → l < st → e ≤ k → k < b → Bf T (v t l) (v t k)) → (∀ l k, st ≤ l → l < m → m ≤ k → k < e → Bf T (v t k) (v t l)) → Ord T (v (symTail M f a m b mid st t)) a b := by
  unfold symTail
  dsimp only
  rw [he]
  have hv1 : v (if st < m ∧ m < e then rotate M st m e t else t) = rotF st m e (v t) := by
    by_cases c : st < m ∧ m < e
    · rw [if_pos c]; exact v_rotate V st m e t c.1 c.2
    · rw [if_neg c]
      rcases Nat.lt_or_ge st m with h | h
      · obtain rfl : m = e := by omega
        exact (rotF_left h2).symm
      · obtain rfl : st = m := by omega
        exact (rotF_right h4).symm
  generalize (if st < m ∧ m < e then rotate M st m e t else t) = s1 at hv1 ⊢
  have p1 := symIf IH a st mid s1 h1 h3 (by omega)
  generalize (if a < st ∧ st < mid then symM M f a st mid s1 else s1) = s2 at p1 ⊢
  have p2 := symIf IH mid e b s2 (by omega) h5 (by omega)
  generalize (if mid < e ∧ e < b then symM M f mid e b s2 else s2) = s3 at p2 ⊢
  obtain ⟨i1, g1⟩ := p1
  obtain ⟨i2, g2⟩ := p2
  rw [hv1] at i1 g1
  have i0 : Into a b (v t) (rotF st m e (v t)) := rot_into h1 h2 h4 h5
  refine ⟨(i0.trans (i1.wide (Nat.le_refl _) (by omega))).trans (i2.wide (by omega) (Nat.le_refl _)), fun μ hl hr t1 t2 X1 X2 => ?_⟩
  generalize hd : v t = d at *
  have hlow : ∀ x, x < st → rotF st m e d x = d x := fun x hx => rotF_out (.inl hx)
  have hfst : ∀ x, st ≤ x → x < mid → rotF st m e d x = d (x + (m - st)) := fun x q1 q2 => rotF_fst q1 (by omega) h4 h2
  have hsnd : ∀ x, mid ≤ x → x < e → rotF st m e d x = d (x - (e - m)) := fun x q1 q2 => rotF_snd (by omega) q2 h4 h2
  have hhi : ∀ x, e ≤ x → rotF st m e d x = d x := fun x hx => rotF_out (.inr hx)
  generalize rotF st m e d = d1 at *
  have o1 : Ord T (v s2) a mid := g1 μ (fun x y q1 q2 q3 => by rw [hlow x (by omega), hlow y q3]; exact hl x y q1 q2 (by omega))
    (fun x y q1 q2 q3 => by rw [hfst x q1 (by omega), hfst y (by omega) q3]; exact hr _ _ (by omega) (by omega) (by omega))
    (fun k q1 q2 => by rw [hlow k q2]; exact t1 k q1 (by omega)) (fun k q1 q2 => by rw [hfst k q1 q2]; exact t2 _ (by omega) (by omega))
  have e2 : ∀ x, mid ≤ x → v s2 x = d1 x := fun x q => i1.2 x (by omega)
  have o2 : Ord T (v s3) mid b := g2 μ (fun x y q1 q2 q3 => by rw [e2 x q1, e2 y (by omega), hsnd x q1 (by omega), hsnd y (by omega) q3]; exact hl _ _ (by omega) (by omega) (by omega))
    (fun x y q1 q2 q3 => by rw [e2 x (by omega), e2 y (by omega), hhi x q1, hhi y (by omega)]; exact hr x y (by omega) q2 q3)
    (fun k q1 q2 => by rw [e2 k q1, hsnd k q1 q2]; exact t1 _ (by omega) (by omega)) (fun k q1 q2 => by rw [e2 k (by omega), hhi k q1]; exact t2 k (by omega) q2)
  have cross : ∀ l l', a ≤ l → l < mid → mid ≤ l' → l' < b → Bf T (d1 l) (d1 l') := by
    intro l l' q1 q2 q3 q4
    rcases Nat.lt_or_ge l st with c1 | c1
    · rw [hlow l c1]
      rcases Nat.lt_or_ge l' e with c2 | c2
      · rw [hsnd l' q3 c2]; exact hl _ _ q1 (by omega) (by omega)
      · rw [hhi l' c2]; exact X1 _ _ q1 c1 c2 q4
    · rw [hfst l c1 q2]
      rcases Nat.lt_or_ge l' e with c2 | c2
      · rw [hsnd l' q3 c2]; exact X2 _ _ (by omega) (by omega) (by omega) (by omega)
      · rw [hhi l' c2]; exact hr _ _ (by omega) (by omega) q4
  intro x y q1 q2 q3
  rcases Nat.lt_or_ge y mid with c1 | c1
  · rw [i2.2 x (by omega), i2.2 y (by omega)]; exact o1 x y q1 q2 c1
  · rcases Nat.lt_or_ge x mid with c2 | c2
    · rw [i2.2 x (by omega)]
      obtain ⟨l, l1, l2, el⟩ := i1.1 x q1 c2
      obtain ⟨l', l1', l2', el'⟩ := i2.1 y c1 q3
      rw [el, el', e2 l' l1']
      exact cross l l' l1 l2 l1' l2'
    · exact o2 x y c2 q2 q3

theorem symM_more (S : Swo T) (V : View M T v) {f : Nat} (IH : MergeOk M T v f) (a m b : Nat) (s : σ) (h1 : a + 1 < m) (h2 : m + 1 < b) (hf : b - a ≤ f + 1) : Into a b (v s) (v (symM M (f + 1) a m b s)) ∧ Merges T a m b (v s) (v (symM M (f + 1) a m b s)) := by
  have hsy : symM M (f + 1) a m b s = symTail M f a m b ((a + b) / 2) (symMStart M a m b s).1 (symMStart M a m b s).2 := by
    show (if m - a = 1 then _ else if b - m = 1 then _ else _) = _
    rw [if_neg (by omega), if_neg (by omega)]
    rfl
  have hvs : v (symMStart M a m b s).2 = v s := by
    unfold symMStart bsr
    split <;> exact v_bsL V _ _ _ _ _ _ _
  rw [hsy]
  generalize hmid : (a + b) / 2 = mid
  have hm1 : a < mid := by omega
  have hm2 : mid < b := by omega
  -- what the search tells
  have key : a ≤ (symMStart M a m b s).1 ∧ (symMStart M a m b s).1 ≤ m ∧ (symMStart M a m b s).1 ≤ mid ∧ mid + m - b ≤ (symMStart M a m b s).1 ∧
      (a < (symMStart M a m b s).1 → mid + m - b < (symMStart M a m b s).1 → T (v s (mid + m - (symMStart M a m b s).1)) (v s ((symMStart M a m b s).1 - 1)) = false) ∧
      ((symMStart M a m b s).1 < m → (symMStart M a m b s).1 < mid → T (v s (mid + m - (symMStart M a m b s).1 - 1)) (v s (symMStart M a m b s).1) = true) := by
    unfold symMStart
    rw [hmid]
    by_cases c : mid < m
    · rw [if_pos c]
      unfold bsr
      have hE := bsL_ends V (fun c => mid + m - 1 - c) (fun c => c) false (mid - (mid + m - b)) (mid + m - b) mid s (by omega) (Nat.le_refl _)
      have hR := bsL_range (M := M) (x := fun c => mid + m - 1 - c) (y := fun c => c) (up := false) (mid - (mid + m - b)) (mid + m - b) mid s (by omega)
      generalize (bsL M (fun c => mid + m - 1 - c) (fun c => c) false (mid - (mid + m - b)) (mid + m - b) mid s).1 = i at hE hR ⊢
      refine ⟨by omega, by omega, by omega, by omega, fun q1 q2 => ?_, fun q1 q2 => ?_⟩
      · have := hE.1 q2
        rw [show mid + m - 1 - (i - 1) = mid + m - i by omega] at this
        exact this
      · have := hE.2 q2
        rw [show mid + m - 1 - i = mid + m - i - 1 by omega] at this
        simpa using this
    · rw [if_neg c]
      unfold bsr
      have hE := bsL_ends V (fun c => mid + m - 1 - c) (fun c => c) false (m - a) a m s (by omega) (Nat.le_refl _)
      have hR := bsL_range (M := M) (x := fun c => mid + m - 1 - c) (y := fun c => c) (up := false) (m - a) a m s (by omega)
      generalize (bsL M (fun c => mid + m - 1 - c) (fun c => c) false (m - a) a m s).1 = i at hE hR ⊢
      refine ⟨by omega, by omega, by omega, by omega, fun q1 q2 => ?_, fun q1 q2 => ?_⟩
      · have := hE.1 q1
        rw [show mid + m - 1 - (i - 1) = mid + m - i by omega] at this
        exact this
      · have := hE.2 q1
        rw [show mid + m - 1 - i = mid + m - i - 1 by omega] at this
        simpa using this
  generalize (symMStart M a m b s).1 = st at key ⊢
  generalize (symMStart M a m b s).2 = t at hvs ⊢
  obtain ⟨k1, k2, k3, k4, k5, k6⟩ := key
  have sp := symTail_spec S V IH a m b mid st (mid + m - st) t rfl k1 k2 k3 (by omega) (by omega) (by omega) (by omega) hm1 hm2 hf
  rw [hvs] at sp
  refine ⟨sp.1, fun μ hl hr t1 t2 => sp.2 μ hl hr t1 t2 (fun l k q1 q2 q3 q4 => ?_) (fun l k q1 q2 q3 q4 => ?_)⟩
  · have hx := k5 (by omega) (by omega)
    have tl := t1 (st - 1) (by omega) (by omega)
    have tr := t2 (mid + m - st) (by omega) (by omega)
    exact hl.ge S (hr.le S (Bf.of_not (by omega) hx) (by omega) q3 q4) q1 (show l ≤ st - 1 by omega) (by omega)
  · have hx := k6 (by omega) (by omega)
    exact hr.ge S (hl.le S (Bf.of_less hx) (by omega) q1 q2) q3 (show k ≤ mid + m - st - 1 by omega) (by omega)

theorem symM_ok (S : Swo T) (V : View M T v) : ∀ f, MergeOk M T v f
  | 0 => fun a m b s h1 h2 h3 => absurd h3 (by omega)
  | f + 1 => fun a m b s h1 h2 h3 => by
    by_cases c1 : m = a + 1
    · exact symM_one S V f a m b s c1 h2
    · by_cases c2 : b = m + 1
      · exact symM_last S V f a m b s (by omega) c2
      · exact symM_more S V (symM_ok S V f) a m b s (by omega) (by omega) h3

/-! ### Insertion -/
theorem insInner_rot (V : View M T v) (a : Nat) : ∀ (j : Nat) (s : σ), a ≤ j → ∃ p, a ≤ p ∧ p ≤ j ∧ v (insInner M a j s) = rotF p j (j + 1) (v s) ∧ (∀ k, p ≤ k → k < j → T (v s j) (v s k) = true) ∧ (a < p → T (v s j) (v s (p - 1)) = false)
  | 0, s, h => ⟨0, h, Nat.le_refl _, by rw [rotF_right (by omega)]; rfl, fun k q1 q2 => absurd q2 (by omega), fun q => absurd q (by omega)⟩
  | j + 1, s, h => by
    by_cases c : a < j + 1
    · have hin : insInner M a (j + 1) s = if M.less s (j + 1) j = true then insInner M a j (M.swap (M.tick s (j + 1) j) (j + 1) j) else M.tick s (j + 1) j := by
        show (if a < j + 1 then _ else _) = _
        rw [if_pos c]
      rw [hin]
      cases hv : M.less s (j + 1) j
      · rw [if_neg (by simp), V.tick]
        refine ⟨j + 1, by omega, Nat.le_refl _, (rotF_right (by omega)).symm, fun k q1 q2 => absurd q2 (by omega), fun _ => ?_⟩
        rw [V.less] at hv; exact hv
      · rw [if_pos rfl]
        obtain ⟨p, p1, p2, p3, p4, p5⟩ := insInner_rot V a j (M.swap (M.tick s (j + 1) j) (j + 1) j) (by omega)
        rw [V.swap, V.tick] at p3 p4 p5
        rw [V.less] at hv
        have hj : swapF (v s) (j + 1) j j = v s (j + 1) := by unfold swapF; rw [if_neg (by omega), if_pos rfl]
        have hj1 : swapF (v s) (j + 1) j (j + 1) = v s j := by unfold swapF; rw [if_pos rfl]
        have ho : ∀ k, k ≠ j → k ≠ j + 1 → swapF (v s) (j + 1) j k = v s k := fun k q1 q2 => by unfold swapF; rw [if_neg q2, if_neg q1]
        refine ⟨p, p1, by omega, ?_, fun k q1 q2 => ?_, fun q => ?_⟩
        · rw [p3]
          funext x
          rcases Nat.lt_or_ge x p with c1 | c1
          · rw [rotF_out (.inl c1), rotF_out (.inl c1), ho x (by omega) (by omega)]
          · rcases Nat.lt_or_ge x (j + 1) with c2 | c2
            · by_cases c3 : x = p
              · subst c3
                rw [rotF_fst (Nat.le_refl _) (by omega) (by omega) p2, rotF_fst (Nat.le_refl _) (by omega) (by omega) (by omega), show x + (j - x) = j by omega, hj]
                congr 1; omega
              · rw [rotF_snd (by omega) (by omega) (by omega) p2, rotF_snd (by omega) (by omega) (by omega) (by omega), ho _ (by omega) (by omega)]
                congr 1; omega
            · rcases Nat.lt_or_ge x (j + 1 + 1) with c3 | c3
              · obtain rfl : x = j + 1 := by omega
                rw [rotF_out (.inr (by omega)), rotF_snd (by omega) (by omega) (by omega) (by omega), hj1]
                congr 1; omega
              · rw [rotF_out (.inr (by omega)), rotF_out (.inr (by omega)), ho x (by omega) (by omega)]
        · by_cases c1 : k = j
          · subst c1; exact hv
          · have := p4 k q1 (by omega)
            rw [hj, ho k c1 (by omega)] at this; exact this
        · have := p5 q
          rw [hj, ho (p - 1) (by omega) (by omega)] at this; exact this
    · have hin : insInner M a (j + 1) s = s := by
        show (if a < j + 1 then _ else _) = _
        rw [if_neg c]
      rw [hin]
      exact ⟨j + 1, h, Nat.le_refl _, (rotF_right (by omega)).symm, fun k q1 q2 => absurd q2 (by omega), fun q => absurd q c⟩

theorem insInner_ord (S : Swo T) (V : View M T v) (a i : Nat) (s : σ) (h : a ≤ i) : Into a (i + 1) (v s) (v (insInner M a i s)) ∧ (Ord T (v s) a i → (∀ k, a ≤ k → k < i → v s k < v s i) → Ord T (v (insInner M a i s)) a (i + 1)) := by
  obtain ⟨p, p1, p2, p3, p4, p5⟩ := insInner_rot V a i s h
  rw [p3]
  refine ⟨rot_into p1 p2 (by omega) (Nat.le_refl _), fun ho ht => ord_rot p1 p2 (by omega) (Nat.le_refl _) ho (fun x y q1 q2 q3 => absurd q3 (by omega)) (fun l k q1 q2 q3 q4 => ?_) (fun l k q1 q2 q3 q4 => ?_) (fun l k q1 q2 q3 q4 => absurd q4 (by omega))⟩
  · obtain rfl : k = i := by omega
    exact ho.ge S (Bf.of_not (ht (p - 1) (by omega) (by omega)) (p5 (by omega))) q1 (show l ≤ p - 1 by omega) (by omega)
  · obtain rfl : k = i := by omega
    exact Bf.of_less (p4 l q1 q2)
end
end Go.Proofs.Ytjammaglboehcaa

namespace Go.Proofs.Ytjammaglboehcaa
set_option linter.unusedVariables false

/-- [lo, hi) has its own numbers, in order. -/
def Seg (T : Nat → Nat → Bool) (d : Nat → Nat) (lo hi : Nat) : Prop := (∀ k, lo ≤ k → k < hi → lo ≤ d k ∧ d k < hi) ∧ Ord T d lo hi
theorem Seg.congr {T : Nat → Nat → Bool} {d d' : Nat → Nat} {lo hi : Nat} (h : Seg T d lo hi) (he : ∀ x, lo ≤ x → x < hi → d' x = d x) : Seg T d' lo hi :=
  ⟨fun k h1 h2 => by rw [he k h1 h2]; exact h.1 k h1 h2, fun x y h1 h2 h3 => by rw [he x h1 (by omega), he y (by omega) h3]; exact h.2 x y h1 h2 h3⟩
theorem Seg.none {T : Nat → Nat → Bool} {d : Nat → Nat} {lo hi : Nat} (h : hi ≤ lo) : Seg T d lo hi := ⟨fun k h1 h2 => absurd h2 (by omega), fun x y h1 h2 h3 => absurd h3 (by omega)⟩

section
variable {σ : Type} {M : Mach σ} {T : Nat → Nat → Bool} {v : σ → Nat → Nat}

theorem seg_merge (S : Swo T) (V : View M T v) (a m b : Nat) (s : σ) (h1 : a < m) (h2 : m < b) (hl : Seg T (v s) a m) (hr : Seg T (v s) m b) :
    Seg T (v (symMerge M a m b s)) a b ∧ ∀ x, ¬ (a ≤ x ∧ x < b) → v (symMerge M a m b s) x = v s x := by
  obtain ⟨hi, hm⟩ := symM_ok S V (b - a) a m b s h1 h2 (Nat.le_refl _)
  refine ⟨⟨fun k q1 q2 => ?_, hm m hl.2 hr.2 (fun k q1 q2 => (hl.1 k q1 q2).2) (fun k q1 q2 => (hr.1 k q1 q2).1)⟩, hi.2⟩
  obtain ⟨l, l1, l2, e⟩ := hi.1 k q1 q2
  show a ≤ v (symM M (b - a) a m b s) k ∧ v (symM M (b - a) a m b s) k < b
  rw [e]
  rcases Nat.lt_or_ge l m with c | c
  · have := hl.1 l l1 c; omega
  · have := hr.1 l c l2; omega

theorem insOuter_seg (S : Swo T) (V : View M T v) (a : Nat) : ∀ (k i : Nat) (s : σ), a ≤ i → Seg T (v s) a i → (∀ x, i ≤ x → x < i + k → v s x = x) →
    Seg T (v (insOuter M a k i s)) a (i + k) ∧ ∀ x, ¬ (a ≤ x ∧ x < i + k) → v (insOuter M a k i s) x = v s x
  | 0, i, s, h, hs, hx => ⟨hs, fun _ _ => rfl⟩
  | k + 1, i, s, h, hs, hx => by
    obtain ⟨hi, ho⟩ := insInner_ord S V a i s h
    have hii := hx i (Nat.le_refl _) (by omega)
    have hs1 : Seg T (v (insInner M a i s)) a (i + 1) := ⟨fun y q1 q2 => by
      obtain ⟨l, l1, l2, e⟩ := hi.1 y q1 q2
      rw [e]
      rcases Nat.lt_or_ge l i with c | c
      · have := hs.1 l l1 c; omega
      · obtain rfl : l = i := by omega
        omega, ho hs.2 (fun y q1 q2 => by rw [hii]; exact (hs.1 y q1 q2).2)⟩
    have ih := insOuter_seg S V a k (i + 1) (insInner M a i s) (by omega) hs1 (fun x q1 q2 => by rw [hi.2 x (by omega)]; exact hx x (by omega) (by omega))
    rw [show i + 1 + k = i + (k + 1) by omega] at ih
    exact ⟨ih.1, fun x hx2 => (ih.2 x hx2).trans (hi.2 x (by omega))⟩

theorem insSort_seg (S : Swo T) (V : View M T v) (a b : Nat) (s : σ) (h : a ≤ b) (hx : ∀ x, a ≤ x → x < b → v s x = x) :
    Seg T (v (insSort M a b s)) a b ∧ ∀ x, ¬ (a ≤ x ∧ x < b) → v (insSort M a b s) x = v s x := by
  unfold insSort
  rcases Nat.lt_or_ge a b with c | c
  · have h1 : Seg T (v s) a (a + 1) := ⟨fun k q1 q2 => by
      obtain rfl : k = a := by omega
      rw [hx k (Nat.le_refl _) c]; omega, fun x y q1 q2 q3 => absurd q3 (by omega)⟩
    have := insOuter_seg S V a (b - (a + 1)) (a + 1) s (by omega) h1 (fun x q1 q2 => hx x (by omega) (by omega))
    rw [show a + 1 + (b - (a + 1)) = b by omega] at this
    exact this
  · rw [show b - (a + 1) = 0 by omega]
    exact ⟨Seg.none c, fun _ _ => rfl⟩

theorem stBlocks_seg (S : Swo T) (V : View M T v) (n : Nat) : ∀ (k a : Nat) (s : σ), a ≤ n → n - a ≤ k → (∀ x, a ≤ x → x < n → v s x = x) →
    ∃ u, (stBlocks M n k a s).1 = a + u * 20 ∧ (stBlocks M n k a s).1 ≤ n ∧ n < (stBlocks M n k a s).1 + 20 ∧ (∀ t, t < u → Seg T (v (stBlocks M n k a s).2) (a + t * 20) (a + (t + 1) * 20)) ∧
      (∀ x, (x < a ∨ (stBlocks M n k a s).1 ≤ x) → v (stBlocks M n k a s).2 x = v s x)
  | 0, a, s, h1, h2, hx => ⟨0, by show a = a + 0 * 20; omega, h1, by show n < a + 20; omega, fun t ht => absurd ht (Nat.not_lt_zero _), fun _ _ => rfl⟩
  | k + 1, a, s, h1, h2, hx => by
    by_cases c : a + 20 ≤ n
    · rw [show stBlocks M n (k + 1) a s = stBlocks M n k (a + 20) (insSort M a (a + 20) s) by
        show (if a + 20 ≤ n then _ else _) = _; rw [if_pos c]]
      obtain ⟨hs, ho⟩ := insSort_seg S V a (a + 20) s (by omega) (fun x q1 q2 => hx x q1 (by omega))
      obtain ⟨u, u1, u2, u3, u4, u5⟩ := stBlocks_seg S V n k (a + 20) (insSort M a (a + 20) s) c (by omega) (fun x q1 q2 => by rw [ho x (by omega)]; exact hx x (by omega) q2)
      refine ⟨u + 1, by rw [u1]; omega, u2, u3, fun t ht => ?_, fun x q => by rw [u5 x (by omega), ho x (by omega)]⟩
      cases t with
      | zero =>
        refine Seg.congr (d := v (insSort M a (a + 20) s)) ?_ (fun x q1 q2 => u5 x (by omega))
        rw [show a + 0 * 20 = a by omega, show a + (0 + 1) * 20 = a + 20 by omega]; exact hs
      | succ t =>
        have := u4 t (by omega)
        rw [show a + (t + 1) * 20 = a + 20 + t * 20 by omega, show a + (t + 1 + 1) * 20 = a + 20 + (t + 1) * 20 by omega]
        exact this
    · rw [show stBlocks M n (k + 1) a s = (a, s) by
        show (if a + 20 ≤ n then _ else _) = _; rw [if_neg c]]
      exact ⟨0, by show a = a + 0 * 20; omega, h1, by show n < a + 20; omega, fun t ht => absurd ht (Nat.not_lt_zero _), fun _ _ => rfl⟩

/-- The list is in runs of bs from a on. -/
def Segs (T : Nat → Nat → Bool) (bs n a : Nat) (d : Nat → Nat) : Prop := ∀ t, a + t * bs < n → Seg T d (a + t * bs) (min (a + (t + 1) * bs) n)

theorem stPass_seg (S : Swo T) (V : View M T v) (n bs : Nat) (hbs : 1 ≤ bs) : ∀ (k a : Nat) (s : σ), a ≤ n → n - a ≤ k → Segs T bs n a (v s) →
    ∃ u, (stPass M n bs k a s).1 = a + u * (2 * bs) ∧ (stPass M n bs k a s).1 ≤ n ∧ n < (stPass M n bs k a s).1 + 2 * bs ∧ (∀ t, t < u → Seg T (v (stPass M n bs k a s).2) (a + t * (2 * bs)) (a + (t + 1) * (2 * bs))) ∧
      Segs T bs n (stPass M n bs k a s).1 (v (stPass M n bs k a s).2) ∧ (∀ x, x < a → v (stPass M n bs k a s).2 x = v s x)
  | 0, a, s, h1, h2, hx => ⟨0, by show a = a + 0 * (2 * bs); omega, h1, by show n < a + 2 * bs; omega, fun t ht => absurd ht (Nat.not_lt_zero _), hx, fun _ _ => rfl⟩
  | k + 1, a, s, h1, h2, hx => by
    by_cases c : a + 2 * bs ≤ n
    · rw [show stPass M n bs (k + 1) a s = stPass M n bs k (a + 2 * bs) (symMerge M a (a + bs) (a + 2 * bs) s) by
        show (if a + 2 * bs ≤ n then _ else _) = _; rw [if_pos c]]
      have s0 := hx 0 (by omega)
      have s1 := hx 1 (by omega)
      rw [show a + 0 * bs = a by omega, show min (a + (0 + 1) * bs) n = a + bs by omega] at s0
      rw [show a + 1 * bs = a + bs by omega, show min (a + (1 + 1) * bs) n = a + 2 * bs by omega] at s1
      obtain ⟨hs, ho⟩ := seg_merge S V a (a + bs) (a + 2 * bs) s (by omega) (by omega) s0 s1
      obtain ⟨u, u1, u2, u3, u4, u5, u6⟩ := stPass_seg S V n bs hbs k (a + 2 * bs) (symMerge M a (a + bs) (a + 2 * bs) s) c (by omega) (fun t ht => by
        have e1 : (t + 2) * bs = t * bs + 2 * bs := Nat.add_mul t 2 bs
        have e2 : (t + 2 + 1) * bs = (t + 1) * bs + 2 * bs := by rw [show t + 2 + 1 = t + 1 + 2 by omega]; exact Nat.add_mul (t + 1) 2 bs
        have := hx (t + 2) (by omega)
        rw [show a + (t + 2) * bs = a + 2 * bs + t * bs by omega, show a + (t + 2 + 1) * bs = a + 2 * bs + (t + 1) * bs by omega] at this
        exact this.congr (fun x q1 q2 => ho x (by omega)))
      refine ⟨u + 1, by rw [u1, Nat.add_mul]; omega, u2, u3, fun t ht => ?_, u5, fun x q => by rw [u6 x (by omega), ho x (by omega)]⟩
      cases t with
      | zero =>
        refine Seg.congr (d := v (symMerge M a (a + bs) (a + 2 * bs) s)) ?_ (fun x q1 q2 => u6 x (by omega))
        rw [show a + 0 * (2 * bs) = a by omega, show a + (0 + 1) * (2 * bs) = a + 2 * bs by omega]; exact hs
      | succ t =>
        have := u4 t (by omega)
        rw [show a + (t + 1) * (2 * bs) = a + 2 * bs + t * (2 * bs) by rw [Nat.add_mul]; omega, show a + (t + 1 + 1) * (2 * bs) = a + 2 * bs + (t + 1) * (2 * bs) by rw [Nat.add_mul (t + 1)]; omega]
        exact this
    · rw [show stPass M n bs (k + 1) a s = (a, s) by
        show (if a + 2 * bs ≤ n then _ else _) = _; rw [if_neg c]]
      exact ⟨0, by show a = a + 0 * (2 * bs); omega, h1, by show n < a + 2 * bs; omega, fun t ht => absurd ht (Nat.not_lt_zero _), hx, fun _ _ => rfl⟩

/-- Runs up to a, and one more to the end. -/
theorem segs_of {T : Nat → Nat → Bool} {bs n u a : Nat} {d : Nat → Nat} (hbs : 1 ≤ bs) (ha : a = u * bs) (h1 : a ≤ n) (h2 : n < a + bs) (hs : ∀ t, t < u → Seg T d (t * bs) ((t + 1) * bs)) (hl : Seg T d a n) : Segs T bs n 0 d := by
  intro t ht
  rw [Nat.zero_add] at ht
  rw [Nat.zero_add, Nat.zero_add]
  rcases Nat.lt_or_ge t u with c | c
  · have h3 : (t + 1) * bs ≤ u * bs := Nat.mul_le_mul_right _ c
    rw [Nat.min_eq_left (by omega)]
    exact hs t c
  · have h3 : u * bs ≤ t * bs := Nat.mul_le_mul_right _ c
    have h4 : t = u := by
      rcases Nat.lt_or_ge u t with c2 | c2
      · have : (u + 1) * bs ≤ t * bs := Nat.mul_le_mul_right _ c2
        rw [Nat.add_mul] at this
        omega
      · omega
    subst h4
    rw [Nat.min_eq_right (by rw [Nat.add_mul]; omega), ← ha]
    exact hl

theorem stRound_seg (S : Swo T) (V : View M T v) (n bs : Nat) (s : σ) (hbs : 1 ≤ bs) (h : Segs T bs n 0 (v s)) : Segs T (bs * 2) n 0 (v (stRound M n bs s)) := by
  obtain ⟨u, u1, u2, u3, u4, u5, u6⟩ := stPass_seg S V n bs hbs n 0 s (Nat.zero_le _) (by omega) h
  unfold stRound
  dsimp only
  generalize (stPass M n bs n 0 s).1 = a at *
  generalize (stPass M n bs n 0 s).2 = t at *
  rw [Nat.zero_add] at u1
  simp only [Nat.zero_add] at u4
  rw [Nat.mul_comm bs 2]
  by_cases c : a + bs < n
  · rw [if_pos c]
    have s0 := u5 0 (by omega)
    have s1 := u5 1 (by omega)
    rw [show a + 0 * bs = a by omega, show min (a + (0 + 1) * bs) n = a + bs by omega] at s0
    rw [show a + 1 * bs = a + bs by omega, show min (a + (1 + 1) * bs) n = n by omega] at s1
    obtain ⟨hs, ho⟩ := seg_merge S V a (a + bs) n t (by omega) c s0 s1
    refine segs_of (by omega) u1 u2 u3 (fun q hq => (u4 q hq).congr (fun x q1 q2 => ho x ?_)) hs
    have : (q + 1) * (2 * bs) ≤ u * (2 * bs) := Nat.mul_le_mul_right _ hq
    omega
  · rw [if_neg c]
    refine segs_of (by omega) u1 u2 u3 u4 ?_
    rcases Nat.lt_or_ge a n with c2 | c2
    · have s0 := u5 0 (by omega)
      rw [show a + 0 * bs = a by omega, show min (a + (0 + 1) * bs) n = n by omega] at s0
      exact s0
    · exact Seg.none c2

theorem stLoop_seg (S : Swo T) (V : View M T v) (n : Nat) : ∀ (k bs : Nat) (s : σ), 1 ≤ bs → n - bs ≤ k → Segs T bs n 0 (v s) → Seg T (v (stLoop M n k bs s)) 0 n
  | 0, bs, s, h1, h2, h => by
    show Seg T (v s) 0 n
    rcases Nat.lt_or_ge 0 n with c | c
    · have := h 0 (by omega)
      rw [show 0 + 0 * bs = 0 by omega, show min (0 + (0 + 1) * bs) n = n by omega] at this
      exact this
    · exact Seg.none c
  | k + 1, bs, s, h1, h2, h => by
    by_cases c : bs < n
    · rw [show stLoop M n (k + 1) bs s = stLoop M n k (bs * 2) (stRound M n bs s) by
        show (if bs < n then _ else _) = _; rw [if_pos c]]
      exact stLoop_seg S V n k (bs * 2) _ (by omega) (by omega) (stRound_seg S V n bs s h1 h)
    · rw [show stLoop M n (k + 1) bs s = s by
        show (if bs < n then _ else _) = _; rw [if_neg c]]
      rcases Nat.lt_or_ge 0 n with c2 | c2
      · have := h 0 (by omega)
        rw [show 0 + 0 * bs = 0 by omega, show min (0 + (0 + 1) * bs) n = n by omega] at this
        exact this
      · exact Seg.none c2

/-- THE SORT: from the numbers in their places to the numbers in order. -/
theorem stable_seg (S : Swo T) (V : View M T v) (n : Nat) (s : σ) (h : ∀ x, x < n → v s x = x) : Seg T (v (stable M n s)) 0 n := by
  obtain ⟨u, u1, u2, u3, u4, u5⟩ := stBlocks_seg S V n n 0 s (Nat.zero_le _) (by omega) (fun x _ q => h x q)
  unfold stable
  dsimp only
  generalize (stBlocks M n n 0 s).1 = a at *
  generalize (stBlocks M n n 0 s).2 = t at *
  rw [Nat.zero_add] at u1
  simp only [Nat.zero_add] at u4
  obtain ⟨hs, ho⟩ := insSort_seg S V a n t u2 (fun x q1 q2 => by rw [u5 x (.inr q1)]; exact h x q2)
  refine stLoop_seg S V n n 20 _ (by omega) (by omega) (segs_of (by omega) u1 u2 u3 (fun q hq => (u4 q hq).congr (fun x q1 q2 => ho x (by omega))) hs)
end
end Go.Proofs.Ytjammaglboehcaa
