/-
  Ways of a machine within a range of places: so many questions, and swaps of places in [lo, hi), lead from one state to another. No program of Go is named here.
-/
import Derived.Test.YtkklbnheiganlaaZB
import Derived.Test.YtkklbnheiganlaaZA
namespace Go.Proofs.Ytkklbnheiganlaa
set_option linter.unusedVariables false

/-- From s to t by at most k questions and swaps; the swaps are of places in [lo, hi). -/
inductive Wy {σ : Type} (M : Mach σ) (lo hi : Nat) : Nat → σ → σ → Prop
  | nil (k : Nat) (s : σ) : Wy M lo hi k s s
  | tick (k : Nat) (s t : σ) (i j : Nat) : Wy M lo hi k (M.tick s i j) t → Wy M lo hi (k + 1) s t
  | swap (k : Nat) (s t : σ) (i j : Nat) : lo ≤ i → i < hi → lo ≤ j → j < hi → Wy M lo hi k (M.swap s i j) t → Wy M lo hi (k + 1) s t

section
variable {σ : Type} {M : Mach σ} {lo hi : Nat}
theorem Wy.cost {c : σ → Nat} (G : Costs M c) {k : Nat} {s t : σ} (h : Wy M lo hi k s t) : c t ≤ c s + k := by
  induction h with
  | nil k s => exact Nat.le_add_right _ _
  | tick k s t i j _ ih => have := G.tick s i j; omega
  | swap k s t i j _ _ _ _ _ ih => have := G.swap s i j; omega
theorem Wy.mono {k k' : Nat} {s t : σ} (h : Wy M lo hi k s t) (hk : k ≤ k') : Wy M lo hi k' s t := by
  induction h generalizing k' with
  | nil => exact .nil _ _
  | tick k s t i j _ ih =>
    obtain ⟨q, rfl⟩ : ∃ q, k' = q + 1 := ⟨k' - 1, by omega⟩
    exact .tick _ _ _ i j (ih (by omega))
  | swap k s t i j h1 h2 h3 h4 _ ih =>
    obtain ⟨q, rfl⟩ : ∃ q, k' = q + 1 := ⟨k' - 1, by omega⟩
    exact .swap _ _ _ i j h1 h2 h3 h4 (ih (by omega))
theorem Wy.trans {k k' : Nat} {s t u : σ} (h : Wy M lo hi k s t) (h' : Wy M lo hi k' t u) : Wy M lo hi (k + k') s u := by
  induction h with
  | nil k s => exact h'.mono (by omega)
  | tick k s t i j _ ih => exact (Wy.tick _ _ _ i j (ih h')).mono (by omega)
  | swap k s t i j h1 h2 h3 h4 _ ih => exact (Wy.swap _ _ _ i j h1 h2 h3 h4 (ih h')).mono (by omega)
theorem Wy.wide {lo' hi' k : Nat} {s t : σ} (h : Wy M lo hi k s t) (hl : lo' ≤ lo) (hh : hi ≤ hi') : Wy M lo' hi' k s t := by
  induction h with
  | nil => exact .nil _ _
  | tick k s t i j _ ih => exact .tick _ _ _ i j ih
  | swap k s t i j h1 h2 h3 h4 _ ih => exact .swap _ _ _ i j (by omega) (by omega) (by omega) (by omega) ih
theorem Wy.tick1 (s : σ) (i j : Nat) : Wy M lo hi 1 s (M.tick s i j) := .tick 0 _ _ i j (.nil _ _)
theorem Wy.swap1 (s : σ) {i j : Nat} (h1 : lo ≤ i) (h2 : i < hi) (h3 : lo ≤ j) (h4 : j < hi) : Wy M lo hi 1 s (M.swap s i j) := .swap 0 _ _ i j h1 h2 h3 h4 (.nil _ _)
theorem Wy.both (s : σ) {i j : Nat} (h1 : lo ≤ i) (h2 : i < hi) (h3 : lo ≤ j) (h4 : j < hi) : Wy M lo hi 2 s (M.swap (M.tick s i j) i j) := (Wy.tick1 s i j).trans (Wy.swap1 _ h1 h2 h3 h4)

section
variable {T : Nat → Nat → Bool} {v : σ → Nat → Nat} (V : View M T v)
include V
/-- Places outside stay as they are. -/
theorem Wy.out {k : Nat} {s t : σ} (h : Wy M lo hi k s t) {x : Nat} (hx : x < lo ∨ hi ≤ x) : v t x = v s x := by
  induction h with
  | nil => rfl
  | tick k s t i j _ ih => rw [ih, V.tick]
  | swap k s t i j h1 h2 h3 h4 _ ih => rw [ih, V.swap]; unfold swapF; rw [if_neg (by omega), if_neg (by omega)]
/-- What all that stands in the range has, it keeps. -/
theorem Wy.all {P : Nat → Prop} {k : Nat} {s t : σ} (h : Wy M lo hi k s t) (hP : ∀ x, lo ≤ x → x < hi → P (v s x)) : ∀ x, lo ≤ x → x < hi → P (v t x) := by
  induction h with
  | nil => exact hP
  | tick k s t i j _ ih => exact ih (fun x h1 h2 => by rw [V.tick]; exact hP x h1 h2)
  | swap k s t i j h1 h2 h3 h4 _ ih =>
    refine ih (fun x h5 h6 => ?_)
    rw [V.swap]
    unfold swapF
    split
    · exact hP j h3 h4
    · split
      · exact hP i h1 h2
      · exact hP x h5 h6
end

theorem wy_insInner (a : Nat) (hl : lo ≤ a) : ∀ (j : Nat) (s : σ), j < hi → Wy M lo hi (2 * (j - a)) s (insInner M a j s)
  | 0, s, _ => .nil _ _
  | j + 1, s, hj => by
    unfold insInner
    split
    · split
      · exact ((Wy.both s (by omega) hj (by omega) (by omega)).trans (wy_insInner a hl j _ (by omega))).mono (by omega)
      · exact (Wy.tick1 s _ _).mono (by omega)
    · exact .nil _ _
theorem wy_insOuter (a : Nat) (hl : lo ≤ a) : ∀ (k i : Nat) (s : σ), i + k ≤ hi → Wy M lo hi (k * (2 * (i + k - a))) s (insOuter M a k i s)
  | 0, _, s, _ => .nil _ _
  | k + 1, i, s, h => by
    refine ((wy_insInner a hl i s (by omega)).trans (wy_insOuter a hl k (i + 1) _ (by omega))).mono ?_
    rw [show i + 1 + k - a = i + (k + 1) - a by omega]
    have h3 : (k + 1) * (2 * (i + (k + 1) - a)) = k * (2 * (i + (k + 1) - a)) + 2 * (i + (k + 1) - a) := Nat.succ_mul _ _
    omega
theorem wy_insSort (a b : Nat) (s : σ) (hl : lo ≤ a) (hb : b ≤ hi) : Wy M lo hi ((b - a - 1) * (2 * (b - a))) s (insSort M a b s) := by
  unfold insSort
  rcases Nat.lt_or_ge a b with h1 | h1
  · have h := wy_insOuter (M := M) (hi := hi) a hl (b - (a + 1)) (a + 1) s (by omega)
    rw [show a + 1 + (b - (a + 1)) - a = b - a by omega] at h
    exact h.mono (by rw [show b - (a + 1) = b - a - 1 by omega]; exact Nat.le_refl _)
  · rw [show b - (a + 1) = 0 by omega]; exact .nil _ _

theorem wy_siftD (h first : Nat) (hl : lo ≤ first) (hf : first + h ≤ hi) : ∀ (f root : Nat) (s : σ), root < h → Wy M lo hi (3 * f) s (siftD M h first f root s)
  | 0, _, s, _ => .nil _ _
  | f + 1, root, s, hr => by
    unfold siftD
    split
    · exact .nil _ _
    · split
      · split
        · dsimp only
          split
          · exact (((Wy.tick1 s _ _).trans (Wy.both _ (by omega) (by omega) (by omega) (by omega))).trans (wy_siftD h first hl hf f _ _ (by omega))).mono (by omega)
          · exact ((Wy.tick1 s _ _).trans (Wy.tick1 _ _ _)).mono (by omega)
        · dsimp only
          split
          · exact (((Wy.tick1 s _ _).trans (Wy.both _ (by omega) (by omega) (by omega) (by omega))).trans (wy_siftD h first hl hf f _ _ (by omega))).mono (by omega)
          · exact ((Wy.tick1 s _ _).trans (Wy.tick1 _ _ _)).mono (by omega)
      · split
        · exact ((Wy.both s (by omega) (by omega) (by omega) (by omega)).trans (wy_siftD h first hl hf f _ _ (by omega))).mono (by omega)
        · exact (Wy.tick1 s _ _).mono (by omega)
theorem wy_siftD' (h first : Nat) (hl : lo ≤ first) (hf : first + h ≤ hi) (f root : Nat) (s : σ) : Wy M lo hi (3 * f) s (siftD M h first f root s) := by
  rcases Nat.lt_or_ge root h with h1 | h1
  · exact wy_siftD h first hl hf f root s h1
  · rw [siftD_none h first f root s (by omega)]; exact .nil _ _
theorem wy_heapB (h first : Nat) (hl : lo ≤ first) (hf : first + h ≤ hi) : ∀ (k : Nat) (s : σ), Wy M lo hi (k * (3 * h)) s (heapB M h first k s)
  | 0, s => .nil _ _
  | k + 1, s => by
    refine ((wy_siftD' h first hl hf h k s).trans (wy_heapB h first hl hf k _)).mono ?_
    have h3 : (k + 1) * (3 * h) = k * (3 * h) + 3 * h := Nat.succ_mul _ _
    omega
theorem wy_heapP (first m : Nat) (hl : lo ≤ first) (hf : first + m ≤ hi) : ∀ (k : Nat) (s : σ), k ≤ m → Wy M lo hi (k * (3 * m + 1)) s (heapP M first k s)
  | 0, s, _ => .nil _ _
  | k + 1, s, hk => by
    refine (((Wy.swap1 s (by omega) (by omega) (by omega) (by omega)).trans (wy_siftD' k first hl (by omega) k 0 _)).trans (wy_heapP first m hl hf k _ (by omega))).mono ?_
    have h3 : (k + 1) * (3 * m + 1) = k * (3 * m + 1) + (3 * m + 1) := Nat.succ_mul _ _
    omega
theorem wy_heapS (a b : Nat) (s : σ) (hab : a ≤ b) (hl : lo ≤ a) (hb : b ≤ hi) : Wy M lo hi (((b - a - 1) / 2 + 1) * (3 * (b - a)) + (b - a) * (3 * (b - a) + 1)) s (heapS M a b s) :=
  (wy_heapB (b - a) a hl (by omega) _ s).trans (wy_heapP a (b - a) hl (by omega) (b - a) _ (Nat.le_refl _))

theorem wy_scanU (x y : Nat → Nat) (up : Bool) (h : Nat) : ∀ (f i : Nat) (s : σ), Wy M lo hi ((scanU M x y up h f i s).1 - i + 1) s (scanU M x y up h f i s).2 ∧ i ≤ (scanU M x y up h f i s).1 ∧ ((scanU M x y up h f i s).1 ≤ h ∨ (scanU M x y up h f i s).1 = i)
  | 0, i, s => ⟨.nil _ _, Nat.le_refl _, .inr rfl⟩
  | f + 1, i, s => by
    unfold scanU
    split
    · rename_i hlt
      split
      · have ih := wy_scanU x y up h f (i + 1) (M.tick s (x i) (y i))
        exact ⟨((Wy.tick1 s _ _).trans ih.1).mono (by omega), by omega, by omega⟩
      · exact ⟨(Wy.tick1 s _ _).mono (by omega), Nat.le_refl _, .inr rfl⟩
    · exact ⟨.nil _ _, Nat.le_refl _, .inr rfl⟩
theorem wy_scanD (x y : Nat → Nat) (up : Bool) (l : Nat) : ∀ (j : Nat) (s : σ), Wy M lo hi (j - (scanD M x y up l j s).1 + 1) s (scanD M x y up l j s).2 ∧ (scanD M x y up l j s).1 ≤ j ∧ (l ≤ (scanD M x y up l j s).1 + 1 ∨ (scanD M x y up l j s).1 = j)
  | 0, s => ⟨.nil _ _, Nat.le_refl _, .inr rfl⟩
  | j + 1, s => by
    unfold scanD
    split
    · rename_i hle
      split
      · have ih := wy_scanD x y up l j (M.tick s (x (j + 1)) (y (j + 1)))
        exact ⟨((Wy.tick1 s _ _).trans ih.1).mono (by omega), by omega, by omega⟩
      · exact ⟨(Wy.tick1 s _ _).mono (by omega), Nat.le_refl _, .inr rfl⟩
    · exact ⟨.nil _ _, Nat.le_refl _, .inr rfl⟩
theorem wy_parU (a : Nat) (e : Bool) (i j : Nat) (s : σ) : Wy M lo hi ((parU M a e i j s).1 - i + 1) s (parU M a e i j s).2 ∧ i ≤ (parU M a e i j s).1 ∧ ((parU M a e i j s).1 ≤ j + 1 ∨ (parU M a e i j s).1 = i) := by
  unfold parU
  cases e
  · exact wy_scanU (fun i => i) (fun _ => a) true (j + 1) _ i s
  · exact wy_scanU (fun _ => a) (fun i => i) false (j + 1) _ i s
theorem wy_parD (a : Nat) (e : Bool) (i j : Nat) (s : σ) : Wy M lo hi (j - (parD M a e i j s).1 + 1) s (parD M a e i j s).2 ∧ (parD M a e i j s).1 ≤ j ∧ (i ≤ (parD M a e i j s).1 + 1 ∨ (parD M a e i j s).1 = j) := by
  unfold parD
  cases e
  · exact wy_scanD (fun j => j) (fun _ => a) false i j s
  · exact wy_scanD (fun _ => a) (fun j => j) true i j s
theorem wy_partL (a b : Nat) (e : Bool) (hl : lo ≤ a) (hb : b ≤ hi) : ∀ (f i j : Nat) (s : σ), a + 1 ≤ i → i ≤ j + 2 → i ≤ b → a ≤ j → j < b →
    Wy M lo hi (2 * (j + 2 - i) + 2) s (partL M a e f i j s).2.2 ∧ i ≤ (partL M a e f i j s).1 ∧ (partL M a e f i j s).1 ≤ b ∧ a ≤ (partL M a e f i j s).2.1 ∧ (partL M a e f i j s).2.1 < b
  | 0, i, j, s, h1, h2, h3, h4, h5 => ⟨.nil _ _, Nat.le_refl _, h3, h4, h5⟩
  | f + 1, i, j, s, h1, h2, h3, h4, h5 => by
    rw [partL_eq]
    have w1 := wy_parU (M := M) (lo := lo) (hi := hi) a e i j s
    generalize parU M a e i j s = r1 at *
    have w2 := wy_parD (M := M) (lo := lo) (hi := hi) a e r1.1 j r1.2
    generalize parD M a e r1.1 j r1.2 = r2 at *
    split
    · exact ⟨(w1.1.trans w2.1).mono (by omega), by dsimp only; omega, by dsimp only; omega, by dsimp only; omega, by dsimp only; omega⟩
    · have ih := wy_partL a b e hl hb f (r1.1 + 1) (r2.1 - 1) (M.swap r2.2 r1.1 r2.1) (by omega) (by omega) (by omega) (by omega) (by omega)
      exact ⟨(((w1.1.trans w2.1).trans (Wy.swap1 _ (by omega) (by omega) (by omega) (by omega))).trans ih.1).mono (by omega), by omega, ih.2.2.1, ih.2.2.2.1, ih.2.2.2.2⟩
theorem wy_partEq (a b pivot : Nat) (s : σ) (hap : a ≤ pivot) (hpb : pivot < b) (hl : lo ≤ a) (hb : b ≤ hi) : Wy M lo hi (2 * (b - a) + 3) s (partEq M a b pivot s).2 ∧ a < (partEq M a b pivot s).1 ∧ (partEq M a b pivot s).1 ≤ b := by
  have h := wy_partL (M := M) (lo := lo) (hi := hi) a b true hl hb (b - a) (a + 1) (b - 1) (M.swap s a pivot) (Nat.le_refl _) (by omega) (by omega) (by omega) (by omega)
  exact ⟨((Wy.swap1 s (by omega) (by omega) (by omega) (by omega)).trans h.1).mono (by omega), h.2.1, h.2.2.1⟩
theorem wy_partit (a b pivot : Nat) (s : σ) (hap : a ≤ pivot) (hpb : pivot < b) (hl : lo ≤ a) (hb : b ≤ hi) : Wy M lo hi (2 * (b - a) + 4) s (partit M a b pivot s).2.2 ∧ a ≤ (partit M a b pivot s).1 ∧ (partit M a b pivot s).1 < b := by
  rw [partit_eq _ _ _ (by omega)]
  have w0 : Wy M lo hi 1 s (M.swap s a pivot) := Wy.swap1 s (by omega) (by omega) (by omega) (by omega)
  split
  · have w1 := wy_parU (M := M) (lo := lo) (hi := hi) a false (a + 1) (b - 1) (M.swap s a pivot)
    generalize parU M a false (a + 1) (b - 1) (M.swap s a pivot) = r1 at *
    have w2 := wy_parD (M := M) (lo := lo) (hi := hi) a false r1.1 (b - 1) r1.2
    generalize parD M a false r1.1 (b - 1) r1.2 = r2 at *
    exact ⟨(((w0.trans w1.1).trans w2.1).trans (Wy.swap1 _ (by omega) (by omega) (by omega) (by omega))).mono (by omega), by dsimp only; omega, by dsimp only; omega⟩
  · have h := wy_partL (M := M) (lo := lo) (hi := hi) a b false hl hb (b - a + 1) (a + 1) (b - 1) (M.swap s a pivot) (Nat.le_refl _) (by omega) (by omega) (by omega) (by omega)
    generalize partL M a false (b - a + 1) (a + 1) (b - 1) (M.swap s a pivot) = r at *
    exact ⟨((w0.trans h.1).trans (Wy.swap1 _ (by omega) (by omega) (by omega) (by omega))).mono (by omega), h.2.2.2.1, h.2.2.2.2⟩
theorem wy_shiftU (b : Nat) (hb : b ≤ hi) : ∀ (f j : Nat) (s : σ), lo + 1 ≤ j → Wy M lo hi (2 * f) s (shiftU M b f j s)
  | 0, _, s, _ => .nil _ _
  | f + 1, j, s, hj => by
    unfold shiftU
    split
    · split
      · exact ((Wy.both s (by omega) (by omega) (by omega) (by omega)).trans (wy_shiftU b hb f (j + 1) _ (by omega))).mono (by omega)
      · exact (Wy.tick1 s _ _).mono (by omega)
    · exact .nil _ _
theorem wy_revL : ∀ (f i j : Nat) (s : σ), lo ≤ i → j < hi → Wy M lo hi ((j + 1 - i) / 2) s (revL M f i j s)
  | 0, _, _, s, _, _ => .nil _ _
  | f + 1, i, j, s, hi', hj => by
    unfold revL
    split
    · exact ((Wy.swap1 s (by omega) (by omega) (by omega) hj).trans (wy_revL f (i + 1) (j - 1) _ (by omega) (by omega))).mono (by omega)
    · exact .nil _ _
theorem wy_revR (a b : Nat) (s : σ) (hab : a < b) (hl : lo ≤ a) (hb : b ≤ hi) : Wy M lo hi ((b - a) / 2) s (revR M a b s) := (wy_revL (b - a) a (b - 1) s hl (by omega)).mono (by omega)
theorem wy_breakP {oth : Nat → Nat → Nat} (ho : OthOk oth) (a b : Nat) (s : σ) (hl : lo ≤ a) (hb : b ≤ hi) : Wy M lo hi 3 s (breakP M oth a b s) := by
  unfold breakP
  split
  · rename_i h8
    have h0 := ho (b - a) 0 h8
    have h1 := ho (b - a) 1 h8
    have h2 := ho (b - a) 2 h8
    dsimp only
    exact ((Wy.swap1 s (by omega) (by omega) (by omega) (by omega)).trans (Wy.swap1 _ (by omega) (by omega) (by omega) (by omega))).trans (Wy.swap1 _ (by omega) (by omega) (by omega) (by omega))
  · exact .nil _ _
end
end Go.Proofs.Ytkklbnheiganlaa
