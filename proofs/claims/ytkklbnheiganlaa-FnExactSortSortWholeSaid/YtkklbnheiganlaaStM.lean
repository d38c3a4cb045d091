/-
  The stable sort of sort and slices, as a plain program over a machine with Less and Swap. No program of Go is named here.
-/
import Derived.Test.YtkklbnheiganlaaWords
namespace Go.Proofs.Ytkklbnheiganlaa
set_option linter.unusedVariables false

/-- A machine: what Less answers, the state behind a call of Less, the state behind a call of Swap. -/
structure Mach (σ : Type) where
  less : σ → Nat → Nat → Bool
  tick : σ → Nat → Nat → σ
  swap : σ → Nat → Nat → σ

/-- A bound that a state keeps if a later one keeps it. -/
structure Guard {σ : Type} (M : Mach σ) (ok : σ → Prop) : Prop where
  tick : ∀ s i j, ok (M.tick s i j) → ok s
  swap : ∀ s i j, ok (M.swap s i j) → ok s

section
variable {σ : Type} (M : Mach σ)

/-- for j > a && Less(j, j-1); j--: Swap(j, j-1) -/
def insInner (a : Nat) : Nat → σ → σ
  | 0, s => s
  | j + 1, s => if a < j + 1 then (if M.less s (j + 1) j = true then insInner a j (M.swap (M.tick s (j + 1) j) (j + 1) j) else M.tick s (j + 1) j) else s

/-- k rounds of the outer loop, from i on -/
def insOuter (a : Nat) : Nat → Nat → σ → σ
  | 0, _, s => s
  | k + 1, i, s => insOuter a k (i + 1) (insInner M a i s)

def insSort (a b : Nat) (s : σ) : σ := insOuter M a (b - (a + 1)) (a + 1) s

/-- k swaps of a+i and b+i, from i on -/
def swapR (a b : Nat) : Nat → Nat → σ → σ
  | 0, _, s => s
  | k + 1, i, s => swapR a b k (i + 1) (M.swap s (a + i) (b + i))

/-- k swaps of x and x-1, downwards -/
def swapDn : Nat → Nat → σ → σ
  | 0, _, s => s
  | k + 1, x, s => swapDn k (x - 1) (M.swap s x (x - 1))

/-- the loop of rotate -/
def rotL (m : Nat) : Nat → Nat → Nat → σ → σ
  | 0, _, _, s => s
  | f + 1, i, j, s => if i = j then swapR M (m - i) m i 0 s else if j < i then rotL m f (i - j) j (swapR M (m - i) m j 0 s) else rotL m f i (j - i) (swapR M (m - i) (m + j - i) i 0 s)

def rotate (a m b : Nat) (s : σ) : σ := rotL M m ((m - a) + (b - m)) (m - a) (b - m) s

/-- a binary search: the upper half where Less(x h, y h) is 'up' -/
def bsL (x y : Nat → Nat) (up : Bool) : Nat → Nat → Nat → σ → Nat × σ
  | 0, i, _, s => (i, s)
  | f + 1, i, j, s => if i < j then (if M.less s (x ((i + j) / 2)) (y ((i + j) / 2)) = up then bsL x y up f ((i + j) / 2 + 1) j (M.tick s (x ((i + j) / 2)) (y ((i + j) / 2))) else bsL x y up f i ((i + j) / 2) (M.tick s (x ((i + j) / 2)) (y ((i + j) / 2)))) else (i, s)

def bsr (x y : Nat → Nat) (up : Bool) (i j : Nat) (s : σ) : Nat × σ := bsL M x y up (j - i) i j s

/-- what symMerge does when it has found where to part -/
def symMStart (a m b : Nat) (s : σ) : Nat × σ :=
  if (a + b) / 2 < m then bsr M (fun c => (a + b) / 2 + m - 1 - c) (fun c => c) false ((a + b) / 2 + m - b) ((a + b) / 2) s
  else bsr M (fun c => (a + b) / 2 + m - 1 - c) (fun c => c) false a m s

def symM : Nat → Nat → Nat → Nat → σ → σ
  | 0, _, _, _, s => s
  | f + 1, a, m, b, s =>
    if m - a = 1 then
      (let r := bsr M (fun h => h) (fun _ => a) true m b s
       swapR M a (a + 1) (r.1 - 1 - a) 0 r.2)
    else if b - m = 1 then
      (let r := bsr M (fun _ => m) (fun h => h) false a m s
       swapDn M (m - r.1) m r.2)
    else
      (let r := symMStart M a m b s
       let mid := (a + b) / 2
       let e := mid + m - r.1
       let s1 := if r.1 < m ∧ m < e then rotate M r.1 m e r.2 else r.2
       let s2 := if a < r.1 ∧ r.1 < mid then symM f a r.1 mid s1 else s1
       if mid < e ∧ e < b then symM f mid e b s2 else s2)

def symMerge (a m b : Nat) (s : σ) : σ := symM M (b - a) a m b s

/-- what symMerge does behind its search -/
def symTail (f a m b mid st : Nat) (t : σ) : σ :=
  let e := mid + m - st
  let s1 := if st < m ∧ m < e then rotate M st m e t else t
  let s2 := if a < st ∧ st < mid then symM M f a st mid s1 else s1
  if mid < e ∧ e < b then symM M f mid e b s2 else s2

/-- the first loop of stable: blocks of 20, k of them at most -/
def stBlocks (n : Nat) : Nat → Nat → σ → Nat × σ
  | 0, a, s => (a, s)
  | k + 1, a, s => if a + 20 ≤ n then stBlocks n k (a + 20) (insSort M a (a + 20) s) else (a, s)

/-- one pass of merges of blocks of bs -/
def stPass (n bs : Nat) : Nat → Nat → σ → Nat × σ
  | 0, a, s => (a, s)
  | k + 1, a, s => if a + 2 * bs ≤ n then stPass n bs k (a + 2 * bs) (symMerge M a (a + bs) (a + 2 * bs) s) else (a, s)

def stRound (n bs : Nat) (s : σ) : σ :=
  let r := stPass M n bs n 0 s
  if r.1 + bs < n then symMerge M r.1 (r.1 + bs) n r.2 else r.2

/-- the passes -/
def stLoop (n : Nat) : Nat → Nat → σ → σ
  | 0, _, s => s
  | k + 1, bs, s => if bs < n then stLoop n k (bs * 2) (stRound M n bs s) else s

def stable (n : Nat) (s : σ) : σ :=
  let r := stBlocks M n n 0 s
  stLoop M n n 20 (insSort M r.1 n r.2)
end

/-! ### Equations -/
section
variable {σ : Type} {M : Mach σ} {x y : Nat → Nat} {up : Bool} {f i j : Nat} {s : σ}
theorem bsL_stop (h : ¬ i < j) : bsL M x y up f i j s = (i, s) := by
  cases f with
  | zero => rfl
  | succ f => show (if i < j then _ else _) = _; rw [if_neg h]
theorem bsL_up (h : i < j) (hv : M.less s (x ((i + j) / 2)) (y ((i + j) / 2)) = up) : bsL M x y up (f + 1) i j s = bsL M x y up f ((i + j) / 2 + 1) j (M.tick s (x ((i + j) / 2)) (y ((i + j) / 2))) := by
  show (if i < j then _ else _) = _; rw [if_pos h, if_pos hv]
theorem bsL_dn (h : i < j) (hv : M.less s (x ((i + j) / 2)) (y ((i + j) / 2)) ≠ up) : bsL M x y up (f + 1) i j s = bsL M x y up f i ((i + j) / 2) (M.tick s (x ((i + j) / 2)) (y ((i + j) / 2))) := by
  show (if i < j then _ else _) = _; rw [if_pos h, if_neg hv]
/-- where a search ends -/
theorem bsL_range : ∀ (f i j : Nat) (s : σ), i ≤ j → i ≤ (bsL M x y up f i j s).1 ∧ (bsL M x y up f i j s).1 ≤ j
  | 0, i, j, s, h => ⟨Nat.le_refl _, h⟩
  | f + 1, i, j, s, h => by
    by_cases hlt : i < j
    · by_cases hv : M.less s (x ((i + j) / 2)) (y ((i + j) / 2)) = up
      · rw [bsL_up hlt hv]
        have := bsL_range f ((i + j) / 2 + 1) j (M.tick s (x ((i + j) / 2)) (y ((i + j) / 2))) (by omega)
        omega
      · rw [bsL_dn hlt hv]
        have := bsL_range f i ((i + j) / 2) (M.tick s (x ((i + j) / 2)) (y ((i + j) / 2))) (by omega)
        omega
    · rw [bsL_stop hlt]; exact ⟨Nat.le_refl _, h⟩
end

/-! ### The bound goes down -/
section
variable {σ : Type} {M : Mach σ} {ok : σ → Prop} (G : Guard M ok)
include G
theorem ok_insInner (a : Nat) : ∀ (j : Nat) (s : σ), ok (insInner M a j s) → ok s
  | 0, _, h => h
  | j + 1, s, h => by
    unfold insInner at h
    split at h
    · split at h
      · exact G.tick _ _ _ (G.swap _ _ _ (ok_insInner a j _ h))
      · exact G.tick _ _ _ h
    · exact h
theorem ok_insOuter (a : Nat) : ∀ (k i : Nat) (s : σ), ok (insOuter M a k i s) → ok s
  | 0, _, _, h => h
  | k + 1, i, s, h => ok_insInner G a i s (ok_insOuter a k (i + 1) _ h)
theorem ok_insSort (a b : Nat) (s : σ) (h : ok (insSort M a b s)) : ok s := ok_insOuter G a _ _ s h
theorem ok_swapR (a b : Nat) : ∀ (k i : Nat) (s : σ), ok (swapR M a b k i s) → ok s
  | 0, _, _, h => h
  | k + 1, i, s, h => G.swap _ _ _ (ok_swapR a b k (i + 1) _ h)
theorem ok_swapDn : ∀ (k x : Nat) (s : σ), ok (swapDn M k x s) → ok s
  | 0, _, _, h => h
  | k + 1, x, s, h => G.swap _ _ _ (ok_swapDn k (x - 1) _ h)
theorem ok_rotL (m : Nat) : ∀ (f i j : Nat) (s : σ), ok (rotL M m f i j s) → ok s
  | 0, _, _, _, h => h
  | f + 1, i, j, s, h => by
    unfold rotL at h
    split at h
    · exact ok_swapR G _ _ _ _ _ h
    · split at h
      · exact ok_swapR G _ _ _ _ _ (ok_rotL m f _ _ _ h)
      · exact ok_swapR G _ _ _ _ _ (ok_rotL m f _ _ _ h)
theorem ok_rotate (a m b : Nat) (s : σ) (h : ok (rotate M a m b s)) : ok s := ok_rotL G m _ _ _ s h
theorem ok_bsL (x y : Nat → Nat) (up : Bool) : ∀ (f i j : Nat) (s : σ), ok (bsL M x y up f i j s).2 → ok s
  | 0, _, _, _, h => h
  | f + 1, i, j, s, h => by
    unfold bsL at h
    split at h
    · split at h
      · exact G.tick _ _ _ (ok_bsL x y up f _ _ _ h)
      · exact G.tick _ _ _ (ok_bsL x y up f _ _ _ h)
    · exact h
theorem ok_bsr (x y : Nat → Nat) (up : Bool) (i j : Nat) (s : σ) (h : ok (bsr M x y up i j s).2) : ok s := ok_bsL G x y up _ i j s h
theorem ok_symMStart (a m b : Nat) (s : σ) (h : ok (symMStart M a m b s).2) : ok s := by
  unfold symMStart at h
  split at h
  · exact ok_bsr G _ _ _ _ _ _ h
  · exact ok_bsr G _ _ _ _ _ _ h
theorem ok_symM : ∀ (f a m b : Nat) (s : σ), ok (symM M f a m b s) → ok s
  | 0, _, _, _, _, h => h
  | f + 1, a, m, b, s, h => by
    unfold symM at h
    split at h
    · exact ok_bsr G _ _ _ _ _ _ (ok_swapR G _ _ _ _ _ h)
    · split at h
      · exact ok_bsr G _ _ _ _ _ _ (ok_swapDn G _ _ _ h)
      · dsimp only at h
        refine ok_symMStart G a m b s ?_
        have h2 : ∀ (c : Prop) [Decidable c] (x y z : Nat) (t : σ), ok (if c then symM M f x y z t else t) → ok t := fun c _ x y z t ht => by
          split at ht
          · exact ok_symM f _ _ _ _ ht
          · exact ht
        have h3 := h2 _ _ _ _ _ (h2 _ _ _ _ _ h)
        split at h3
        · exact ok_rotate G _ _ _ _ h3
        · exact h3
theorem ok_symTail (f a m b mid st : Nat) (t : σ) (h : ok (symTail M f a m b mid st t)) : ok t := by
  unfold symTail at h
  dsimp only at h
  have h2 : ∀ (c : Prop) [Decidable c] (x y z : Nat) (t : σ), ok (if c then symM M f x y z t else t) → ok t := fun c _ x y z t ht => by
    split at ht
    · exact ok_symM G f _ _ _ _ ht
    · exact ht
  have h3 := h2 _ _ _ _ _ (h2 _ _ _ _ _ h)
  split at h3
  · exact ok_rotate G _ _ _ _ h3
  · exact h3
theorem ok_symMerge (a m b : Nat) (s : σ) (h : ok (symMerge M a m b s)) : ok s := ok_symM G _ a m b s h
theorem ok_stBlocks (n : Nat) : ∀ (k a : Nat) (s : σ), ok (stBlocks M n k a s).2 → ok s
  | 0, _, _, h => h
  | k + 1, a, s, h => by
    unfold stBlocks at h
    split at h
    · exact ok_insSort G _ _ _ (ok_stBlocks n k _ _ h)
    · exact h
theorem ok_stPass (n bs : Nat) : ∀ (k a : Nat) (s : σ), ok (stPass M n bs k a s).2 → ok s
  | 0, _, _, h => h
  | k + 1, a, s, h => by
    unfold stPass at h
    split at h
    · exact ok_symMerge G _ _ _ _ (ok_stPass n bs k _ _ h)
    · exact h
theorem ok_stRound (n bs : Nat) (s : σ) (h : ok (stRound M n bs s)) : ok s := by
  unfold stRound at h
  dsimp only at h
  split at h
  · exact ok_stPass G _ _ _ _ _ (ok_symMerge G _ _ _ _ h)
  · exact ok_stPass G _ _ _ _ _ h
theorem ok_stLoop (n : Nat) : ∀ (k bs : Nat) (s : σ), ok (stLoop M n k bs s) → ok s
  | 0, _, _, h => h
  | k + 1, bs, s, h => by
    unfold stLoop at h
    split at h
    · exact ok_stRound G _ _ _ (ok_stLoop n k _ _ h)
    · exact h
theorem ok_stable (n : Nat) (s : σ) (h : ok (stable M n s)) : ok s := by
  unfold stable at h
  exact ok_stBlocks G _ _ _ _ (ok_insSort G _ _ _ (ok_stLoop G _ _ _ _ h))
end
end Go.Proofs.Ytkklbnheiganlaa
