/-
  Several texts of the walk or of the plain theory in one: PqB1, PqB2, PqB3, PqB4, PqB5, PqB6.
-/
import Derived.Test.YtjammaglboehcaaZB
import Derived.Test.YtjammaglboehcaaZA
namespace Go.Proofs.Ytjammaglboehcaa
set_option linter.unusedVariables false

/-- From s to t by at most k questions and swaps; the swaps are of places in [lo, hi). -/
inductive Wy {σ : Type} (M : Mach σ) (lo hi : Nat) : Nat → σ → σ → Prop
  | nil (k : Nat) (s : σ) : Wy M lo hi k s s
  | tick (k : Nat) (s t : σ) (i j : Nat) : Wy M lo hi k (M.tick s i j) t → Wy M lo hi (k + 1) s t
  | swap (k : Nat) (s t : σ) (i j : Nat) : lo ≤ i → i < hi → lo ≤ j → j < hi → Wy M lo hi k (M.swap s i j) t → Wy M lo hi (k + 1) s t

section
variable {σ : Type} {M : Mach σ} {lo hi : Nat}
theorem Wy.cost {c : σ → Nat} (G : Costs M c) {k : Nat} {s t : σ} (h : Wy M lo hi k s t) : c t ≤ c s + k := by
  induction h with
  | nil k s => exact Nat.le_add_right _ _
  | tick k s t i j _ ih => have := G.tick s i j; omega
  | swap k s t i j _ _ _ _ _ ih => have := G.swap s i j; omega
theorem Wy.mono {k k' : Nat} {s t : σ} (h : Wy M lo hi k s t) (hk : k ≤ k') : Wy M lo hi k' s t := by
  induction h generalizing k' with
  | nil => exact .nil _ _
  | tick k s t i j _ ih =>
    obtain ⟨q, rfl⟩ : ∃ q, k' = q + 1 := ⟨k' - 1, by omega⟩
    exact .tick _ _ _ i j (ih (by omega))
  | swap k s t i j h1 h2 h3 h4 _ ih =>
    obtain ⟨q, rfl⟩ : ∃ q, k' = q + 1 := ⟨k' - 1, by omega⟩
    exact .swap _ _ _ i j h1 h2 h3 h4 (ih (by omega))
theorem Wy.trans {k k' : Nat} {s t u : σ} (h : Wy M lo hi k s t) (h' : Wy M lo hi k' t u) : Wy M lo hi (k + k') s u := by
  induction h with
  | nil k s => exact h'.mono (by omega)
  | tick k s t i j _ ih => exact (Wy.tick _ _ _ i j (ih h')).mono (by omega)
  | swap k s t i j h1 h2 h3 h4 _ ih => exact (Wy.swap _ _ _ i j h1 h2 h3 h4 (ih h')).mono (by omega)
theorem Wy.wide {lo' hi' k : Nat} {s t : σ} (h : Wy M lo hi k s t) (hl : lo' ≤ lo) (hh : hi ≤ hi') : Wy M lo' hi' k s t := by
  induction h with
  | nil => exact .nil _ _
  | tick k s t i j _ ih => exact .tick _ _ _ i j ih
  | swap k s t i j h1 h2 h3 h4 _ ih => exact .swap _ _ _ i j (by omega) (by omega) (by omega) (by omega) ih
theorem Wy.tick1 (s : σ) (i j : Nat) : Wy M lo hi 1 s (M.tick s i j) := .tick 0 _ _ i j (.nil _ _)
theorem Wy.swap1 (s : σ) {i j : Nat} (h1 : lo ≤ i) (h2 : i < hi) (h3 : lo ≤ j) (h4 : j < hi) : Wy M lo hi 1 s (M.swap s i j) := .swap 0 _ _ i j h1 h2 h3 h4 (.nil _ _)
theorem Wy.both (s : σ) {i j : Nat} (h1 : lo ≤ i) (h2 : i < hi) (h3 : lo ≤ j) (h4 : j < hi) : Wy M lo hi 2 s (M.swap (M.tick s i j) i j) := (Wy.tick1 s i j).trans (Wy.swap1 _ h1 h2 h3 h4)

section
variable {T : Nat → Nat → Bool} {v : σ → Nat → Nat} (V : View M T v)
include V
/-- Places outside stay as they are. -/
theorem Wy.out {k : Nat} {s t : σ} (h : Wy M lo hi k s t) {x : Nat} (hx : x < lo ∨ hi ≤ x) : v t x = v s x := by
  induction h with
  | nil => rfl
  | tick k s t i j _ ih => rw [ih, V.tick]
  | swap k s t i j h1 h2 h3 h4 _ ih => rw [ih, V.swap]; unfold swapF; rw [if_neg (by omega), if_neg (by omega)]
/-- What all that stands in the range has, it keeps. -/
theorem Wy.all {P : Nat → Prop} {k : Nat} {s t : σ} (h : Wy M lo hi k s t) (hP : ∀ x, lo ≤ x → x < hi → P (v s x)) : ∀ x, lo ≤ x → x < hi → P (v t x) := by
  induction h with
  | nil => exact hP
  | tick k s t i j _ ih => exact ih (fun x h1 h2 => by rw [V.tick]; exact hP x h1 h2)
  | swap k s t i j h1 h2 h3 h4 _ ih =>
    refine ih (fun x h5 h6 => ?_)
    rw [V.swap]
    unfold swapF
    split
    · exact hP j h3 h4
    · split
      · exact hP i h1 h2
      · exact hP x h5 h6
end

theorem wy_insInner (a : Nat) (hl : lo ≤ a) : ∀ (j : Nat) (s : σ), j < hi → Wy M lo hi (2 * (j - a)) s (insInner M a j s)
  | 0, s, _ => .nil _ _
  | j + 1, s, hj => by
    unfold insInner
    split
    · split
      · exact ((Wy.both s (by omega) hj (by omega) (by omega)).trans (wy_insInner a hl j _ (by omega))).mono (by omega)
      · exact (Wy.tick1 s _ _).mono (by omega)
    · exact .nil _ _
theorem wy_insOuter (a : Nat) (hl : lo ≤ a) : ∀ (k i : Nat) (s : σ), i + k ≤ hi → Wy M lo hi (k * (2 * (i + k - a))) s (insOuter M a k i s)
  | 0, _, s, _ => .nil _ _
  | k + 1, i, s, h => by
    refine ((wy_insInner a hl i s (by omega)).trans (wy_insOuter a hl k (i + 1) _ (by omega))).mono ?_
    rw [show i + 1 + k - a = i + (k + 1) - a by omega]
    have h3 : (k + 1) * (2 * (i + (k + 1) - a)) = k * (2 * (i + (k + 1) - a)) + 2 * (i + (k + 1) - a) := Nat.succ_mul _ _
    omega
theorem wy_insSort (a b : Nat) (s : σ) (hl : lo ≤ a) (hb : b ≤ hi) : Wy M lo hi ((b - a - 1) * (2 * (b - a))) s (insSort M a b s) := by
  unfold insSort
  rcases Nat.lt_or_ge a b with h1 | h1
  · have h := wy_insOuter (M := M) (hi := hi) a hl (b - (a + 1)) (a + 1) s (by omega)
    rw [show a + 1 + (b - (a + 1)) - a = b - a by omega] at h
    exact h.mono (by rw [show b - (a + 1) = b - a - 1 by omega]; exact Nat.le_refl _)
  · rw [show b - (a + 1) = 0 by omega]; exact .nil _ _

theorem wy_siftD (h first : Nat) (hl : lo ≤ first) (hf : first + h ≤ hi) : ∀ (f root : Nat) (s : σ), root < h → Wy M lo hi (3 * f) s (siftD M h first f root s)
  | 0, _, s, _ => .nil _ _
  | f + 1, root, s, hr => by
    unfold siftD
    split
    · exact .nil _ _
    · split
      · split
        · dsimp only
          split
          · exact (((Wy.tick1 s _ _).trans (Wy.both _ (by omega) (by omega) (by omega) (by omega))).trans (wy_siftD h first hl hf f _ _ (by omega))).mono (by omega)
          · exact ((Wy.tick1 s _ _).trans (Wy.tick1 _ _ _)).mono (by omega)
        · dsimp only
          split
          · exact (((Wy.tick1 s _ _).trans (Wy.both _ (by omega) (by omega) (by omega) (by omega))).trans (wy_siftD h first hl hf f _ _ (by omega))).mono (by omega)
          · exact ((Wy.tick1 s _ _).trans (Wy.tick1 _ _ _)).mono (by omega)
      · split
        · exact ((Wy.both s (by omega) (by omega) (by omega) (by omega)).trans (wy_siftD h first hl hf f _ _ (by omega))).mono (by omega)
        · exact (Wy.tick1 s _ _).mono (by omega)
theorem wy_siftD' (h first : Nat) (hl : lo ≤ first) (hf : first + h ≤ hi) (f root : Nat) (s : σ) : Wy M lo hi (3 * f) s (siftD M h first f root s) := by
  rcases Nat.lt_or_ge root h with h1 | h1
  · exact wy_siftD h first hl hf f root s h1
  · rw [siftD_none h first f root s (by omega)]; exact .nil _ _
theorem wy_heapB (h first : Nat) (hl : lo ≤ first) (hf : first + h ≤ hi) : ∀ (k : Nat) (s : σ), Wy M lo hi (k * (3 * h)) s (heapB M h first k s)
  | 0, s => .nil _ _
  | k + 1, s => by
    refine ((wy_siftD' h first hl hf h k s).trans (wy_heapB h first hl hf k _)).mono ?_
    have h3 : (k + 1) * (3 * h) = k * (3 * h) + 3 * h := Nat.succ_mul _ _
    omega
theorem wy_heapP (first m : Nat) (hl : lo ≤ first) (hf : first + m ≤ hi) : ∀ (k : Nat) (s : σ), k ≤ m → Wy M lo hi (k * (3 * m + 1)) s (heapP M first k s)
  | 0, s, _ => .nil _ _
  | k + 1, s, hk => by
    refine (((Wy.swap1 s (by omega) (by omega) (by omega) (by omega)).trans (wy_siftD' k first hl (by omega) k 0 _)).trans (wy_heapP first m hl hf k _ (by omega))).mono ?_
    have h3 : (k + 1) * (3 * m + 1) = k * (3 * m + 1) + (3 * m + 1) := Nat.succ_mul _ _
    omega
theorem wy_heapS (a b : Nat) (s : σ) (hab : a ≤ b) (hl : lo ≤ a) (hb : b ≤ hi) : Wy M lo hi (((b - a - 1) / 2 + 1) * (3 * (b - a)) + (b - a) * (3 * (b - a) + 1)) s (heapS M a b s) :=
  (wy_heapB (b - a) a hl (by omega) _ s).trans (wy_heapP a (b - a) hl (by omega) (b - a) _ (Nat.le_refl _))

theorem wy_scanU (x y : Nat → Nat) (up : Bool) (h : Nat) : ∀ (f i : Nat) (s : σ), Wy M lo hi ((scanU M x y up h f i s).1 - i + 1) s (scanU M x y up h f i s).2 ∧ i ≤ (scanU M x y up h f i s).1 ∧ ((scanU M x y up h f i s).1 ≤ h ∨ (scanU M x y up h f i s).1 = i)
  | 0, i, s => ⟨.nil _ _, Nat.le_refl _, .inr rfl⟩
  | f + 1, i, s => by
    unfold scanU
    split
    · rename_i hlt
      split
      · have ih := wy_scanU x y up h f (i + 1) (M.tick s (x i) (y i))
        exact ⟨((Wy.tick1 s _ _).trans ih.1).mono (by omega), by omega, by omega⟩
      · exact ⟨(Wy.tick1 s _ _).mono (by omega), Nat.le_refl _, .inr rfl⟩
    · exact ⟨.nil _ _, Nat.le_refl _, .inr rfl⟩
theorem wy_scanD (x y : Nat → Nat) (up : Bool) (l : Nat) : ∀ (j : Nat) (s : σ), Wy M lo hi (j - (scanD M x y up l j s).1 + 1) s (scanD M x y up l j s).2 ∧ (scanD M x y up l j s).1 ≤ j ∧ (l ≤ (scanD M x y up l j s).1 + 1 ∨ (scanD M x y up l j s).1 = j)
  | 0, s => ⟨.nil _ _, Nat.le_refl _, .inr rfl⟩
  | j + 1, s => by
    unfold scanD
    split
    · rename_i hle
      split
      · have ih := wy_scanD x y up l j (M.tick s (x (j + 1)) (y (j + 1)))
        exact ⟨((Wy.tick1 s _ _).trans ih.1).mono (by omega), by omega, by omega⟩
      · exact ⟨(Wy.tick1 s _ _).mono (by omega), Nat.le_refl _, .inr rfl⟩
    · exact ⟨.nil _ _, Nat.le_refl _, .inr rfl⟩
theorem wy_parU (a : Nat) (e : Bool) (i j : Nat) (s : σ) : Wy M lo hi ((parU M a e i j s).1 - i + 1) s (parU M a e i j s).2 ∧ i ≤ (parU M a e i j s).1 ∧ ((parU M a e i j s).1 ≤ j + 1 ∨ (parU M a e i j s).1 = i) := by
  unfold parU
  cases e
  · exact wy_scanU (fun i => i) (fun _ => a) true (j + 1) _ i s
  · exact wy_scanU (fun _ => a) (fun i => i) false (j + 1) _ i s
theorem wy_parD (a : Nat) (e : Bool) (i j : Nat) (s : σ) : Wy M lo hi (j - (parD M a e i j s).1 + 1) s (parD M a e i j s).2 ∧ (parD M a e i j s).1 ≤ j ∧ (i ≤ (parD M a e i j s).1 + 1 ∨ (parD M a e i j s).1 = j) := by
  unfold parD
  cases e
  · exact wy_scanD (fun j => j) (fun _ => a) false i j s
  · exact wy_scanD (fun _ => a) (fun j => j) true i j s
theorem wy_partL (a b : Nat) (e : Bool) (hl : lo ≤ a) (hb : b ≤ hi) : ∀ (f i j : Nat) (s : σ), a + 1 ≤ i → i ≤ j + 2 → i ≤ b → a ≤ j → j < b →
    Wy M lo hi (2 * (j + 2 - i) + 2) s (partL M a e f i j s).2.2 ∧ i ≤ (partL M a e f i j s).1 ∧ (partL M a e f i j s).1 ≤ b ∧ a ≤ (partL M a e f i j s).2.1 ∧ (partL M a e f i j s).2.1 < b
  | 0, i, j, s, h1, h2, h3, h4, h5 => ⟨.nil _ _, Nat.le_refl _, h3, h4, h5⟩
  | f + 1, i, j, s, h1, h2, h3, h4, h5 => by
    rw [partL_eq]
    have w1 := wy_parU (M := M) (lo := lo) (hi := hi) a e i j s
    generalize parU M a e i j s = r1 at *
    have w2 := wy_parD (M := M) (lo := lo) (hi := hi) a e r1.1 j r1.2
    generalize parD M a e r1.1 j r1.2 = r2 at *
    split
    · exact ⟨(w1.1.trans w2.1).mono (by omega), by dsimp only; omega, by dsimp only; omega, by dsimp only; omega, by dsimp only; omega⟩
    · have ih := wy_partL a b e hl hb f (r1.1 + 1) (r2.1 - 1) (M.swap r2.2 r1.1 r2.1) (by omega) (by omega) (by omega) (by omega) (by omega)
      exact ⟨(((w1.1.trans w2.1).trans (Wy.swap1 _ (by omega) (by omega) (by omega) (by omega))).trans ih.1).mono (by omega), by omega, ih.2.2.1, ih.2.2.2.1, ih.2.2.2.2⟩
theorem wy_partEq (a b pivot : Nat) (s : σ) (hap : a ≤ pivot) (hpb : pivot < b) (hl : lo ≤ a) (hb : b ≤ hi) : Wy M lo hi (2 * (b - a) + 3) s (partEq M a b pivot s).2 ∧ a < (partEq M a b pivot s).1 ∧ (partEq M a b pivot s).1 ≤ b := by
  have h := wy_partL (M := M) (lo := lo) (hi := hi) a b true hl hb (b - a) (a + 1) (b - 1) (M.swap s a pivot) (Nat.le_refl _) (by omega) (by omega) (by omega) (by omega)
  exact ⟨((Wy.swap1 s (by omega) (by omega) (by omega) (by omega)).trans h.1).mono (by omega), h.2.1, h.2.2.1⟩
theorem wy_partit (a b pivot : Nat) (s : σ) (hap : a ≤ pivot) (hpb : pivot < b) (hl : lo ≤ a) (hb : b ≤ hi) : Wy M lo hi (2 * (b - a) + 4) s (partit M a b pivot s).2.2 ∧ a ≤ (partit M a b pivot s).1 ∧ (partit M a b pivot s).1 < b := by
  rw [partit_eq _ _ _ (by omega)]
  have w0 : Wy M lo hi 1 s (M.swap s a pivot) := Wy.swap1 s (by omega) (by omega) (by omega) (by omega)
  split
  · have w1 := wy_parU (M := M) (lo := lo) (hi := hi) a false (a + 1) (b - 1) (M.swap s a pivot)
    generalize parU M a false (a + 1) (b - 1) (M.swap s a pivot) = r1 at *
    have w2 := wy_parD (M := M) (lo := lo) (hi := hi) a false r1.1 (b - 1) r1.2
    generalize parD M a false r1.1 (b - 1) r1.2 = r2 at *
    exact ⟨(((w0.trans w1.1).trans w2.1).trans (Wy.swap1 _ (by omega) (by omega) (by omega) (by omega))).mono (by omega), by dsimp only; omega, by dsimp only; omega⟩
  · have h := wy_partL (M := M) (lo := lo) (hi := hi) a b false hl hb (b - a + 1) (a + 1) (b - 1) (M.swap s a pivot) (Nat.le_refl _) (by omega) (by omega) (by omega) (by omega)
    generalize partL M a false (b - a + 1) (a + 1) (b - 1) (M.swap s a pivot) = r at *
    exact ⟨((w0.trans h.1).trans (Wy.swap1 _ (by omega) (by omega) (by omega) (by omega))).mono (by omega), h.2.2.2.1, h.2.2.2.2⟩
theorem wy_shiftU (b : Nat) (hb : b ≤ hi) : ∀ (f j : Nat) (s : σ), lo + 1 ≤ j → Wy M lo hi (2 * f) s (shiftU M b f j s)
  | 0, _, s, _ => .nil _ _
  | f + 1, j, s, hj => by
    unfold shiftU
    split
    · split
      · exact ((Wy.both s (by omega) (by omega) (by omega) (by omega)).trans (wy_shiftU b hb f (j + 1) _ (by omega))).mono (by omega)
      · exact (Wy.tick1 s _ _).mono (by omega)
    · exact .nil _ _
theorem wy_revL : ∀ (f i j : Nat) (s : σ), lo ≤ i → j < hi → Wy M lo hi ((j + 1 - i) / 2) s (revL M f i j s)
  | 0, _, _, s, _, _ => .nil _ _
  | f + 1, i, j, s, hi', hj => by
    unfold revL
    split
    · exact ((Wy.swap1 s (by omega) (by omega) (by omega) hj).trans (wy_revL f (i + 1) (j - 1) _ (by omega) (by omega))).mono (by omega)
    · exact .nil _ _
theorem wy_revR (a b : Nat) (s : σ) (hab : a < b) (hl : lo ≤ a) (hb : b ≤ hi) : Wy M lo hi ((b - a) / 2) s (revR M a b s) := (wy_revL (b - a) a (b - 1) s hl (by omega)).mono (by omega)
theorem wy_breakP {oth : Nat → Nat → Nat} (ho : OthOk oth) (a b : Nat) (s : σ) (hl : lo ≤ a) (hb : b ≤ hi) : Wy M lo hi 3 s (breakP M oth a b s) := by
  unfold breakP
  split
  · rename_i h8
    have h0 := ho (b - a) 0 h8
    have h1 := ho (b - a) 1 h8
    have h2 := ho (b - a) 2 h8
    dsimp only
    exact ((Wy.swap1 s (by omega) (by omega) (by omega) (by omega)).trans (Wy.swap1 _ (by omega) (by omega) (by omega) (by omega))).trans (Wy.swap1 _ (by omega) (by omega) (by omega) (by omega))
  · exact .nil _ _
end
end Go.Proofs.Ytjammaglboehcaa

namespace Go.Proofs.Ytjammaglboehcaa
set_option linter.unusedVariables false

/-- Nothing in [c, b) comes before what stands ahead of it at c - 1. -/
def Bar (T : Nat → Nat → Bool) (c b : Nat) (d : Nat → Nat) : Prop := c = 0 ∨ ∀ x, c ≤ x → x < b → T (d x) (d (c - 1)) = false
/-- Behind t, up to i, none comes before the one ahead of it. -/
def Good (T : Nat → Nat → Bool) (t i : Nat) (d : Nat → Nat) : Prop := ∀ x, t < x → x < i → T (d x) (d (x - 1)) = false

section
variable {σ : Type} {M : Mach σ} {T : Nat → Nat → Bool} {v : σ → Nat → Nat} (V : View M T v)
include V

theorem Bar.wy {c b k : Nat} {s t : σ} (h : Bar T c b (v s)) (w : Wy M c b k s t) : Bar T c b (v t) := by
  rcases h with h | h
  · exact .inl h
  · by_cases h0 : c = 0
    · exact .inl h0
    · refine .inr ?_
      rw [w.out V (x := c - 1) (by omega)]
      exact w.all V (P := fun u => T u (v s (c - 1)) = false) h

theorem v_scanU (x y : Nat → Nat) (up : Bool) (h : Nat) : ∀ (f i : Nat) (s : σ), v (scanU M x y up h f i s).2 = v s ∧ (∀ p, i ≤ p → p < (scanU M x y up h f i s).1 → T (v s (x p)) (v s (y p)) = up) ∧
    (h - i ≤ f → (scanU M x y up h f i s).1 < h → ¬ T (v s (x (scanU M x y up h f i s).1)) (v s (y (scanU M x y up h f i s).1)) = up)
  | 0, i, s => ⟨rfl, fun p h1 h2 => absurd h2 (by show ¬ p < i; omega), fun h1 h2 => absurd h2 (by show ¬ i < h; omega)⟩
  | f + 1, i, s => by
    unfold scanU
    split
    · rename_i hlt
      split
      · rename_i hv
        rw [V.less] at hv
        obtain ⟨e1, e2, e3⟩ := v_scanU x y up h f (i + 1) (M.tick s (x i) (y i))
        rw [V.tick] at e1 e2 e3
        refine ⟨e1, fun p h1 h2 => ?_, fun h1 h2 => e3 (by omega) h2⟩
        by_cases hp : p = i
        · subst hp; exact hv
        · exact e2 p (by omega) h2
      · rename_i hv
        rw [V.less] at hv
        exact ⟨V.tick _ _ _, fun p h1 h2 => absurd h2 (by show ¬ p < i; omega), fun _ _ => hv⟩
    · rename_i hlt
      exact ⟨rfl, fun p h1 h2 => absurd h2 (by show ¬ p < i; omega), fun _ h2 => absurd h2 hlt⟩

theorem v_scanD (x y : Nat → Nat) (up : Bool) (l : Nat) : ∀ (j : Nat) (s : σ), v (scanD M x y up l j s).2 = v s ∧ (∀ p, (scanD M x y up l j s).1 < p → p ≤ j → T (v s (x p)) (v s (y p)) = up)
  | 0, s => ⟨rfl, fun p h1 h2 => absurd h1 (by show ¬ 0 < p; omega)⟩
  | j + 1, s => by
    unfold scanD
    split
    · rename_i hle
      split
      · rename_i hv
        rw [V.less] at hv
        obtain ⟨e1, e2⟩ := v_scanD x y up l j (M.tick s (x (j + 1)) (y (j + 1)))
        rw [V.tick] at e1 e2
        refine ⟨e1, fun p h1 h2 => ?_⟩
        by_cases hp : p = j + 1
        · subst hp; exact hv
        · exact e2 p h1 (by omega)
      · exact ⟨V.tick _ _ _, fun p h1 h2 => absurd h1 (by show ¬ j + 1 < p; omega)⟩
    · exact ⟨rfl, fun p h1 h2 => absurd h1 (by show ¬ j + 1 < p; omega)⟩

/-- The shift of what stands at j to the left: it stops at some p. -/
theorem v_insInner : ∀ (j : Nat) (s : σ), ∃ p, p ≤ j ∧ Wy M p (j + 1) (2 * (j - p) + 1) s (insInner M 0 j s) ∧ (∀ x, v (insInner M 0 j s) x = if x = p then v s j else if p < x ∧ x ≤ j then v s (x - 1) else v s x) ∧
    (∀ x, p ≤ x → x < j → T (v s j) (v s x) = true) ∧ (p = 0 ∨ T (v s j) (v s (p - 1)) = false)
  | 0, s => ⟨0, Nat.le_refl _, .nil _ _, fun x => by
      show v s x = _
      split
      · rename_i h; rw [h]
      · rw [if_neg (by omega)], fun x h1 h2 => absurd h2 (by omega), .inl rfl⟩
  | j + 1, s => by
    unfold insInner
    rw [if_pos (by omega)]
    by_cases hv : M.less s (j + 1) j = true
    · rw [if_pos hv]
      obtain ⟨p, hp, w, hx, ha, hs⟩ := v_insInner j (M.swap (M.tick s (j + 1) j) (j + 1) j)
      rw [V.less] at hv
      have e : ∀ x, v (M.swap (M.tick s (j + 1) j) (j + 1) j) x = if x = j + 1 then v s j else if x = j then v s (j + 1) else v s x := fun x => by rw [V.swap, V.tick]; rfl
      have ej : v (M.swap (M.tick s (j + 1) j) (j + 1) j) j = v s (j + 1) := by rw [e, if_neg (by omega), if_pos rfl]
      refine ⟨p, by omega, ((Wy.both s (by omega) (by omega) (by omega) (by omega)).trans (w.wide (Nat.le_refl _) (by omega))).mono (by omega), fun x => ?_, fun x h1 h2 => ?_, ?_⟩
      · rw [hx x, ej]
        by_cases h1 : x = p
        · rw [if_pos h1, if_pos h1]
        · rw [if_neg h1, if_neg h1]
          by_cases h2 : p < x ∧ x ≤ j
          · rw [if_pos h2, if_pos (by omega), e, if_neg (by omega), if_neg (by omega)]
          · rw [if_neg h2, e]
            by_cases h3 : x = j + 1
            · rw [if_pos h3, if_pos (by omega), h3]; rfl
            · rw [if_neg h3, if_neg (by omega), if_neg (by omega)]
      · by_cases h3 : x = j
        · subst h3; exact hv
        · have h4 := ha x h1 (by omega)
          rw [ej, e, if_neg (by omega), if_neg h3] at h4
          exact h4
      · rcases hs with h | h
        · exact .inl h
        · by_cases h0 : p = 0
          · exact .inl h0
          · rw [ej, e, if_neg (by omega), if_neg (by omega)] at h
            exact .inr h
    · rw [if_neg hv]
      rw [V.less] at hv
      refine ⟨j + 1, Nat.le_refl _, (Wy.tick1 s _ _).mono (by omega), fun x => ?_, fun x h1 h2 => absurd h2 (by omega), .inr ?_⟩
      · rw [V.tick]
        split
        · rename_i h; rw [h]
        · rw [if_neg (by omega)]
      · rw [Nat.add_sub_cancel]
        exact Bool.eq_false_iff.2 hv

/-- One step of partialInsertionSort behind its scan. -/
theorem v_partIS {a b c i : Nat} {s : σ} (hca : c ≤ a) (hai : a < i) (hib : i < b) (hB : Bar T c b (v s)) :
    ∃ p, c ≤ p ∧ p < i ∧ Wy M c b (2 * (b - p)) s (partIS M a b i s) ∧ (∀ x, x < i → v (partIS M a b i s) x = if x = p then v s i else if p < x then v s (x - 1) else v s x) := by
  unfold partIS
  dsimp only
  have w1 : Wy M c b 1 s (M.swap s i (i - 1)) := Wy.swap1 s (by omega) (by omega) (by omega) (by omega)
  have e1 : ∀ x, v (M.swap s i (i - 1)) x = if x = i then v s (i - 1) else if x = i - 1 then v s i else v s x := fun x => by rw [V.swap]; rfl
  have e2 : v (M.swap s i (i - 1)) (i - 1) = v s i := by rw [e1, if_neg (by omega), if_pos rfl]
  generalize M.swap s i (i - 1) = s1 at *
  have h2 : ∃ p, c ≤ p ∧ p < i ∧ Wy M c b (2 * (i - 1 - p) + 1) s1 (if 2 ≤ i - a then insInner M 0 (i - 1) s1 else s1) ∧ (∀ x, x < i → v (if 2 ≤ i - a then insInner M 0 (i - 1) s1 else s1) x = if x = p then v s i else if p < x then v s (x - 1) else v s x) := by
    split
    · obtain ⟨p, hp, w, hx, ha, hs⟩ := v_insInner V (i - 1) s1
      have hcp : c ≤ p := by
        rcases hB with h | h
        · omega
        · by_cases hlt : c ≤ p
          · exact hlt
          · have h5 := ha (c - 1) (by omega) (by omega)
            rw [e2, e1, if_neg (by omega), if_neg (by omega), h i (by omega) hib] at h5
            exact absurd h5 (by decide)
      refine ⟨p, hcp, by omega, w.wide hcp (by omega), fun x hxi => ?_⟩
      rw [hx x, e2]
      by_cases h1 : x = p
      · rw [if_pos h1, if_pos h1]
      · rw [if_neg h1, if_neg h1]
        by_cases h3 : p < x
        · rw [if_pos (by omega), if_pos h3, e1, if_neg (by omega), if_neg (by omega)]
        · rw [if_neg (by omega), if_neg h3, e1, if_neg (by omega), if_neg (by omega)]
    · refine ⟨i - 1, by omega, by omega, .nil _ _, fun x hxi => ?_⟩
      rw [e1, if_neg (by omega)]
      by_cases h1 : x = i - 1
      · rw [if_pos h1, if_pos h1]
      · rw [if_neg h1, if_neg h1, if_neg (by omega)]
  obtain ⟨p, hcp, hpi, w2, hx2⟩ := h2
  generalize (if 2 ≤ i - a then insInner M 0 (i - 1) s1 else s1) = s2 at *
  have w3 : Wy M i b (2 * (b - (i + 1))) s2 (if 2 ≤ b - i then shiftU M b (b - (i + 1)) (i + 1) s2 else s2) := by
    split
    · exact wy_shiftU b (Nat.le_refl _) _ _ _ (Nat.le_refl _)
    · exact .nil _ _
  refine ⟨p, hcp, hpi, ((w1.trans w2).trans (w3.wide (by omega) (Nat.le_refl _))).mono (by omega), fun x hxi => ?_⟩
  rw [w3.out V (.inl hxi)]
  exact hx2 x hxi

/-- So many steps of partialInsertionSort, from i on: it has looked as far as i'; behind t' all stands in order; the count goes down as t' goes up. -/
theorem v_partI {a b c : Nat} (hca : c ≤ a) (hm : 50 ≤ b - a) : ∀ (k i t : Nat) (s : σ), a < i → i ≤ b → a ≤ t → Bar T c b (v s) → Good T t i (v s) →
    ∃ i' t' K, i ≤ i' ∧ i' ≤ b ∧ t + k ≤ t' ∧ Wy M c b K s (partI M a b k i s).2 ∧ K + 2 * (t' - (t + k)) ≤ (i' - i) + k * (2 * (b - c) + 3) ∧ ((partI M a b k i s).1 = false → Good T t' i' (v (partI M a b k i s).2))
  | 0, i, t, s, h1, h2, h3, hB, hG => ⟨i, t, 0, Nat.le_refl _, h2, Nat.le_refl _, .nil _ _, by omega, fun _ => hG⟩
  | k + 1, i, t, s, h1, h2, h3, hB, hG => by
    have h4 : (k + 1) * (2 * (b - c) + 3) = k * (2 * (b - c) + 3) + (2 * (b - c) + 3) := Nat.succ_mul _ _
    rw [partI_eq]
    have w1 := wy_scanU (M := M) (lo := c) (hi := b) (fun i => i) (fun i => i - 1) false b (b - i) i s
    obtain ⟨ev, eg, _⟩ := v_scanU V (fun i => i) (fun i => i - 1) false b (b - i) i s
    generalize scanU M (fun i => i) (fun i => i - 1) false b (b - i) i s = r at *
    obtain ⟨i1, s1⟩ := r
    dsimp only at *
    split
    · rename_i hb
      exact ⟨b, t + (k + 1), i1 - i + 1, h2, Nat.le_refl _, Nat.le_refl _, w1.1, by omega, fun e => absurd e (by simp)⟩
    · rename_i hb
      rw [if_neg (by omega)]
      have hB1 : Bar T c b (v s1) := by rw [ev]; exact hB
      obtain ⟨p, hcp, hpi, w2, hx⟩ := v_partIS V (a := a) (i := i1) hca (by omega) (by omega) hB1
      have hB2 := hB1.wy V w2
      have hG1 : Good T t i1 (v s1) := by
        rw [ev]
        intro x hx1 hx2
        by_cases hxi : x < i
        · exact hG x hx1 hxi
        · exact eg x (by omega) hx2
      have hG2 : ∀ t1, t + 1 ≤ t1 → p + 1 ≤ t1 → Good T t1 i1 (v (partIS M a b i1 s1)) := fun t1 g1 g2 x hx1 hx2 => by
        rw [hx x hx2, hx (x - 1) (by omega), if_neg (by omega), if_pos (by omega), if_neg (by omega), if_pos (by omega)]
        exact hG1 (x - 1) (by omega) (by omega)
      generalize partIS M a b i1 s1 = s2 at *
      by_cases hpt : p ≤ t
      · obtain ⟨i', t', K, e1, e2, e3, e4, e5, e6⟩ := v_partI hca hm k i1 (t + 1) s2 (by omega) (by omega) (by omega) hB2 (hG2 _ (Nat.le_refl _) (by omega))
        exact ⟨i', t', _, by omega, e2, by omega, (w1.1.trans w2).trans e4, by omega, e6⟩
      · obtain ⟨i', t', K, e1, e2, e3, e4, e5, e6⟩ := v_partI hca hm k i1 (p + 1) s2 (by omega) (by omega) (by omega) hB2 (hG2 _ (by omega) (Nat.le_refl _))
        exact ⟨i', t', _, by omega, e2, by omega, (w1.1.trans w2).trans e4, by omega, e6⟩
omit V in
/-- A short range: one scan at most. -/
theorem v_partI_short {a b c : Nat} (hm : b - a < 50) (k i : Nat) (s : σ) (hi : i ≤ b) : Wy M c b (b - i + 1) s (partI M a b k i s).2 := by
  cases k with
  | zero => exact .nil _ _
  | succ k =>
    rw [partI_eq]
    have w1 := wy_scanU (M := M) (lo := c) (hi := b) (fun i => i) (fun i => i - 1) false b (b - i) i s
    generalize scanU M (fun i => i) (fun i => i - 1) false b (b - i) i s = r at *
    split
    · exact w1.1.mono (by omega)
    · exact w1.1.mono (by omega)
end
end Go.Proofs.Ytjammaglboehcaa

namespace Go.Proofs.Ytjammaglboehcaa
set_option linter.unusedVariables false

section
variable {σ : Type} {M : Mach σ} {T : Nat → Nat → Bool} {v : σ → Nat → Nat} (V : View M T v)
include V

theorem v_parU (a : Nat) (e : Bool) (i j : Nat) (s : σ) : v (parU M a e i j s).2 = v s ∧ (e = false → (parU M a e i j s).1 ≤ j → T (v s (parU M a e i j s).1) (v s a) = false) := by
  unfold parU
  cases e
  · obtain ⟨h1, _, h3⟩ := v_scanU V (fun i => i) (fun _ => a) true (j + 1) (j + 1 - i) i s
    exact ⟨h1, fun _ h => Bool.eq_false_iff.2 (h3 (Nat.le_refl _) (Nat.lt_succ_of_le h))⟩
  · exact ⟨(v_scanU V (fun _ => a) (fun i => i) false (j + 1) (j + 1 - i) i s).1, fun h => absurd h (by decide)⟩
theorem v_parD (a : Nat) (e : Bool) (i j : Nat) (s : σ) : v (parD M a e i j s).2 = v s ∧ (∀ p, (parD M a e i j s).1 < p → p ≤ j → (if e then T (v s a) (v s p) = true else T (v s p) (v s a) = false)) := by
  unfold parD
  cases e
  · exact v_scanD V (fun j => j) (fun _ => a) false i j s
  · exact v_scanD V (fun _ => a) (fun j => j) true i j s

/-- partitionEqual that takes the pivot alone. -/
theorem partEq_one {a b c pv : Nat} {s : σ} (hca : c ≤ a) (hap : a ≤ pv) (hpb : pv < b) (hab : a + 1 < b) (h : (partEq M a b pv s).1 = a + 1) :
    Wy M c b (b - a + 2) s (partEq M a b pv s).2 ∧ v (partEq M a b pv s).2 = swapF (v s) a pv ∧ ∀ x, a < x → x < b → T (v s pv) (swapF (v s) a pv x) = true := by
  unfold partEq at h ⊢
  dsimp only at h ⊢
  obtain ⟨f, hf⟩ : ∃ f, b - a = f + 1 := ⟨b - a - 1, by omega⟩
  rw [hf, partL_eq] at h ⊢
  have w0 : Wy M c b 1 s (M.swap s a pv) := Wy.swap1 s (by omega) (by omega) (by omega) (by omega)
  have e0 : v (M.swap s a pv) = swapF (v s) a pv := V.swap _ _ _
  generalize M.swap s a pv = s0 at *
  have w1 := wy_parU (M := M) (lo := c) (hi := b) a true (a + 1) (b - 1) s0
  have u1 := v_parU V a true (a + 1) (b - 1) s0
  generalize parU M a true (a + 1) (b - 1) s0 = r1 at *
  have w2 := wy_parD (M := M) (lo := c) (hi := b) a true r1.1 (b - 1) r1.2
  have u2 := v_parD V a true r1.1 (b - 1) r1.2
  generalize parD M a true r1.1 (b - 1) r1.2 = r2 at *
  by_cases hlt : r2.1 < r1.1
  · rw [if_pos hlt] at h ⊢
    dsimp only at h ⊢
    refine ⟨((w0.trans w1.1).trans w2.1).mono (by omega), by rw [u2.1, u1.1, e0], fun x h1 h2 => ?_⟩
    have h3 := u2.2 x (by omega) (by omega)
    rw [if_pos rfl, u1.1, e0] at h3
    have h4 : swapF (v s) a pv a = v s pv := if_pos rfl
    rw [h4] at h3
    exact h3
  · rw [if_neg hlt] at h
    have h5 := (wy_partL (M := M) (lo := c) (hi := b) a b true hca (Nat.le_refl _) f (r1.1 + 1) (r2.1 - 1) (M.swap r2.2 r1.1 r2.1) (by omega) (by omega) (by omega) (by omega) (by omega)).2.1
    omega

theorem partL_bar {a b : Nat} : ∀ (f i j : Nat) (s : σ), a + 1 ≤ i → a ≤ j → j < b → (∀ x, j < x → x < b → T (v s x) (v s a) = false) →
    v (partL M a false f i j s).2.2 a = v s a ∧ ∀ x, (partL M a false f i j s).2.1 < x → x < b → T (v (partL M a false f i j s).2.2 x) (v s a) = false
  | 0, i, j, s, h1, h2, h3, h4 => ⟨rfl, h4⟩
  | f + 1, i, j, s, h1, h2, h3, h4 => by
    rw [partL_eq]
    have w1 := wy_parU (M := M) (lo := 0) (hi := b) a false i j s
    have u1 := v_parU V a false i j s
    generalize parU M a false i j s = r1 at *
    have w2 := wy_parD (M := M) (lo := 0) (hi := b) a false r1.1 j r1.2
    have u2 := v_parD V a false r1.1 j r1.2
    generalize parD M a false r1.1 j r1.2 = r2 at *
    have hv2 : v r2.2 = v s := u2.1.trans u1.1
    have hup : ∀ x, r2.1 < x → x < b → T (v s x) (v s a) = false := fun x g1 g2 => by
      by_cases hx : j < x
      · exact h4 x hx g2
      · have := u2.2 x g1 (by omega)
        rw [u1.1] at this
        exact this
    by_cases hlt : r2.1 < r1.1
    · rw [if_pos hlt]
      dsimp only
      rw [hv2]
      exact ⟨rfl, hup⟩
    · rw [if_neg hlt]
      have e : ∀ x, v (M.swap r2.2 r1.1 r2.1) x = if x = r1.1 then v s r2.1 else if x = r2.1 then v s r1.1 else v s x := fun x => by rw [V.swap, hv2]; rfl
      have ea : v (M.swap r2.2 r1.1 r2.1) a = v s a := by rw [e, if_neg (by omega), if_neg (by omega)]
      have hs := u1.2 rfl (by omega)
      have ih := partL_bar (a := a) (b := b) f (r1.1 + 1) (r2.1 - 1) (M.swap r2.2 r1.1 r2.1) (by omega) (by omega) (by omega) (fun x g1 g2 => by
        rw [ea, e]
        by_cases hx2 : x = r2.1
        · by_cases hx1 : x = r1.1
          · rw [if_pos hx1, ← hx2, hx1]; exact hs
          · rw [if_neg hx1, if_pos hx2]; exact hs
        · rw [if_neg (by omega), if_neg hx2]
          exact hup x (by omega) g2)
      rw [ea] at ih
      exact ih

/-- partition: what stands behind the pivot does not come before it. -/
theorem partit_bar {a b pv : Nat} {s : σ} (hap : a ≤ pv) (hpb : pv < b) : ∀ x, (partit M a b pv s).1 < x → x < b → T (v (partit M a b pv s).2.2 x) (v (partit M a b pv s).2.2 (partit M a b pv s).1) = false := by
  rw [partit_eq _ _ _ (by omega)]
  have fin : ∀ (t : σ) (j : Nat), a ≤ j → (∀ x, j < x → x < b → T (v t x) (v t a) = false) → ∀ x, j < x → x < b → T (v (M.swap t j a) x) (v (M.swap t j a) j) = false := fun t j hj h x g1 g2 => by
    rw [V.swap]
    unfold swapF
    rw [if_neg (by omega), if_neg (by omega), if_pos rfl]
    exact h x g1 g2
  split
  · have w1 := wy_parU (M := M) (lo := 0) (hi := b) a false (a + 1) (b - 1) (M.swap s a pv)
    have u1 := v_parU V a false (a + 1) (b - 1) (M.swap s a pv)
    generalize parU M a false (a + 1) (b - 1) (M.swap s a pv) = r1 at *
    have w2 := wy_parD (M := M) (lo := 0) (hi := b) a false r1.1 (b - 1) r1.2
    have u2 := v_parD V a false r1.1 (b - 1) r1.2
    generalize parD M a false r1.1 (b - 1) r1.2 = r2 at *
    dsimp only
    refine fin _ _ (by omega) (fun x g1 g2 => ?_)
    have := u2.2 x g1 (by omega)
    rw [u2.1]
    exact this
  · have w := wy_partL (M := M) (lo := 0) (hi := b) a b false (Nat.zero_le _) (Nat.le_refl _) (b - a + 1) (a + 1) (b - 1) (M.swap s a pv) (Nat.le_refl _) (by omega) (by omega) (by omega) (by omega)
    have h := partL_bar V (a := a) (b := b) (b - a + 1) (a + 1) (b - 1) (M.swap s a pv) (Nat.le_refl _) (by omega) (by omega) (fun x g1 g2 => absurd g2 (by omega))
    generalize partL M a false (b - a + 1) (a + 1) (b - 1) (M.swap s a pv) = r at *
    dsimp only
    refine fin _ _ w.2.2.2.1 (fun x g1 g2 => ?_)
    rw [h.1]
    exact h.2 x g1 g2
end

section
variable {σ : Type} {M : Mach σ} {lo hi : Nat}
theorem ord2_cases (M : Mach σ) (a b sw : Nat) (s : σ) : (ord2 M a b sw s = (b, a, sw + 1, M.tick s b a) ∧ M.less s b a = true) ∨ (ord2 M a b sw s = (a, b, sw, M.tick s b a) ∧ M.less s b a = false) := by
  unfold ord2
  by_cases h : M.less s b a = true
  · rw [if_pos h]; exact .inl ⟨rfl, h⟩
  · rw [if_neg h]; exact .inr ⟨rfl, Bool.eq_false_iff.2 h⟩
theorem med_facts (a b c sw : Nat) (s : σ) : Wy M lo hi 3 s (med M a b c sw s).2.2 ∧ sw ≤ (med M a b c sw s).2.1 ∧ (med M a b c sw s).2.1 ≤ sw + 3 ∧ ((med M a b c sw s).2.1 = sw + 3 → (med M a b c sw s).1 = b ∧ M.less s b a = true) ∧ ((med M a b c sw s).2.1 = sw → (med M a b c sw s).1 = b) := by
  unfold med
  dsimp only
  have w1 := fun t i j => Wy.tick1 (M := M) (lo := lo) (hi := hi) t i j
  have w3 := fun t i j i' j' i'' j'' => ((w1 t i j).trans (w1 _ i' j')).trans (w1 _ i'' j'')
  rcases ord2_cases M a b sw s with ⟨e1, h1⟩ | ⟨e1, h1⟩ <;> rw [e1] <;> dsimp only
  · rcases ord2_cases M a c (sw + 1) (M.tick s b a) with ⟨e2, h2⟩ | ⟨e2, h2⟩ <;> rw [e2] <;> dsimp only
    · rcases ord2_cases M b c (sw + 1 + 1) (M.tick (M.tick s b a) c a) with ⟨e3, h3⟩ | ⟨e3, h3⟩ <;> rw [e3] <;> dsimp only
      · exact ⟨w3 _ _ _ _ _ _ _, by omega, by omega, fun _ => ⟨rfl, h1⟩, fun h => absurd h (by omega)⟩
      · exact ⟨w3 _ _ _ _ _ _ _, by omega, by omega, fun h => absurd h (by omega), fun h => absurd h (by omega)⟩
    · rcases ord2_cases M b a (sw + 1) (M.tick (M.tick s b a) c a) with ⟨e3, h3⟩ | ⟨e3, h3⟩ <;> rw [e3] <;> dsimp only
      · exact ⟨w3 _ _ _ _ _ _ _, by omega, by omega, fun h => absurd h (by omega), fun h => absurd h (by omega)⟩
      · exact ⟨w3 _ _ _ _ _ _ _, by omega, by omega, fun h => absurd h (by omega), fun h => absurd h (by omega)⟩
  · rcases ord2_cases M b c sw (M.tick s b a) with ⟨e2, h2⟩ | ⟨e2, h2⟩ <;> rw [e2] <;> dsimp only
    · rcases ord2_cases M a c (sw + 1) (M.tick (M.tick s b a) c b) with ⟨e3, h3⟩ | ⟨e3, h3⟩ <;> rw [e3] <;> dsimp only
      · exact ⟨w3 _ _ _ _ _ _ _, by omega, by omega, fun h => absurd h (by omega), fun h => absurd h (by omega)⟩
      · exact ⟨w3 _ _ _ _ _ _ _, by omega, by omega, fun h => absurd h (by omega), fun h => absurd h (by omega)⟩
    · rcases ord2_cases M a b sw (M.tick (M.tick s b a) c b) with ⟨e3, h3⟩ | ⟨e3, h3⟩ <;> rw [e3] <;> dsimp only
      · exact ⟨w3 _ _ _ _ _ _ _, by omega, by omega, fun h => absurd h (by omega), fun h => absurd h (by omega)⟩
      · exact ⟨w3 _ _ _ _ _ _ _, by omega, by omega, fun h => absurd h (by omega), fun _ => rfl⟩
theorem wy_chooseP (a b : Nat) (s : σ) : Wy M lo hi 12 s (chooseP M a b s).2.2 := by
  unfold chooseP
  dsimp only
  split
  · split
    · unfold medAdj
      have w1 := med_facts (M := M) (lo := lo) (hi := hi) (a + (b - a) / 4 * 1 - 1) (a + (b - a) / 4 * 1) (a + (b - a) / 4 * 1 + 1) 0 s
      generalize med M (a + (b - a) / 4 * 1 - 1) (a + (b - a) / 4 * 1) (a + (b - a) / 4 * 1 + 1) 0 s = r1 at *
      have w2 := med_facts (M := M) (lo := lo) (hi := hi) (a + (b - a) / 4 * 2 - 1) (a + (b - a) / 4 * 2) (a + (b - a) / 4 * 2 + 1) r1.2.1 r1.2.2
      generalize med M (a + (b - a) / 4 * 2 - 1) (a + (b - a) / 4 * 2) (a + (b - a) / 4 * 2 + 1) r1.2.1 r1.2.2 = r2 at *
      have w3 := med_facts (M := M) (lo := lo) (hi := hi) (a + (b - a) / 4 * 3 - 1) (a + (b - a) / 4 * 3) (a + (b - a) / 4 * 3 + 1) r2.2.1 r2.2.2
      generalize med M (a + (b - a) / 4 * 3 - 1) (a + (b - a) / 4 * 3) (a + (b - a) / 4 * 3 + 1) r2.2.1 r2.2.2 = r3 at *
      have w4 := med_facts (M := M) (lo := lo) (hi := hi) r1.1 r2.1 r3.1 r3.2.1 r3.2.2
      exact ((w1.1.trans w2.1).trans w3.1).trans w4.1
    · exact (med_facts (M := M) (lo := lo) (hi := hi) (a + (b - a) / 4 * 1) (a + (b - a) / 4 * 2) (a + (b - a) / 4 * 3) 0 s).1.mono (by omega)
  · exact .nil _ _
theorem hintOf_two {sw : Nat} (h : hintOf sw = 2) : sw = 12 := by
  unfold hintOf at h
  split at h
  · exact absurd h (by decide)
  · split at h
    · assumption
    · exact absurd h (by decide)
theorem hintOf_one {sw : Nat} (h : hintOf sw = 1) : sw = 0 := by
  unfold hintOf at h
  split at h
  · assumption
  · split at h
    · exact absurd h (by decide)
    · exact absurd h (by decide)
/-- A range of 50 or more: where the pivot lies if the hint says something; and what a decreasing one tells at the first quarter. -/
theorem chooseP_facts (a b : Nat) (s : σ) (hm : 50 ≤ b - a) : ((chooseP M a b s).2.1 = 2 → (chooseP M a b s).1 = a + (b - a) / 4 * 2 ∧ M.less s (a + (b - a) / 4 * 1) (a + (b - a) / 4 * 1 - 1) = true) ∧ ((chooseP M a b s).2.1 = 1 → (chooseP M a b s).1 = a + (b - a) / 4 * 2) := by
  unfold chooseP
  dsimp only
  rw [if_pos (by omega), if_pos hm]
  unfold medAdj
  have w1 := (med_facts (M := M) (lo := 0) (hi := 0) (a + (b - a) / 4 * 1 - 1) (a + (b - a) / 4 * 1) (a + (b - a) / 4 * 1 + 1) 0 s).2
  generalize med M (a + (b - a) / 4 * 1 - 1) (a + (b - a) / 4 * 1) (a + (b - a) / 4 * 1 + 1) 0 s = r1 at *
  have w2 := (med_facts (M := M) (lo := 0) (hi := 0) (a + (b - a) / 4 * 2 - 1) (a + (b - a) / 4 * 2) (a + (b - a) / 4 * 2 + 1) r1.2.1 r1.2.2).2
  generalize med M (a + (b - a) / 4 * 2 - 1) (a + (b - a) / 4 * 2) (a + (b - a) / 4 * 2 + 1) r1.2.1 r1.2.2 = r2 at *
  have w3 := (med_facts (M := M) (lo := 0) (hi := 0) (a + (b - a) / 4 * 3 - 1) (a + (b - a) / 4 * 3) (a + (b - a) / 4 * 3 + 1) r2.2.1 r2.2.2).2
  generalize med M (a + (b - a) / 4 * 3 - 1) (a + (b - a) / 4 * 3) (a + (b - a) / 4 * 3 + 1) r2.2.1 r2.2.2 = r3 at *
  have w4 := (med_facts (M := M) (lo := 0) (hi := 0) r1.1 r2.1 r3.1 r3.2.1 r3.2.2).2
  generalize med M r1.1 r2.1 r3.1 r3.2.1 r3.2.2 = r4 at *
  refine ⟨fun h => ?_, fun h => ?_⟩
  · have h12 := hintOf_two h
    have q4 := (w4.2.2.1 (by omega)).1
    have q2 := (w2.2.2.1 (by omega)).1
    have q1 := (w1.2.2.1 (by omega)).2
    exact ⟨q4.trans q2, q1⟩
  · have h0 := hintOf_one h
    have q4 := w4.2.2.2 (by omega)
    have q2 := w2.2.2.2 (by omega)
    exact q4.trans q2
end
end Go.Proofs.Ytjammaglboehcaa

namespace Go.Proofs.Ytjammaglboehcaa
set_option linter.unusedVariables false

/-- Eight times what a range of m places costs, with F places ahead of it down to its floor. -/
def Phi (F m : Nat) : Nat := 80 * ((F + m) * m) + 7 * (m * m) + 8000 * m
theorem Phi_one (F y : Nat) : Phi F (y + 1) = Phi (F + 1) y + 80 * (F + 1 + y) + 14 * y + 8007 := by
  unfold Phi
  simp only [Nat.mul_add, Nat.add_mul, Nat.mul_one, Nat.one_mul]
  omega
theorem Phi_more (F t y : Nat) (ht : 2 ≤ t) : Phi (F + t) y + 160 * (F + t + y) + 16000 ≤ Phi F (t + y) := by
  have h1 : (F + t + y) * 2 ≤ (F + t + y) * t := Nat.mul_le_mul_left _ ht
  unfold Phi
  simp only [Nat.mul_add, Nat.add_mul, Nat.mul_comm y t] at h1 ⊢
  omega
theorem Phi_part (F u w : Nat) : Phi F u + Phi 0 w + 80 * F + 174 * (u + w + 1) + 7913 ≤ Phi F (u + w + 1) := by
  unfold Phi
  simp only [Nat.mul_add, Nat.add_mul, Nat.mul_one, Nat.one_mul, Nat.zero_add, Nat.mul_comm w u]
  omega
theorem Phi_lin (F m : Nat) : 8000 * m ≤ Phi F m := by unfold Phi; omega
theorem Phi_sq (F m : Nat) (hm : 13 ≤ m) : 1040 * (F + m) + 8000 * m ≤ Phi F m := by
  have h1 : (F + m) * 13 ≤ (F + m) * m := Nat.mul_le_mul_left _ hm
  unfold Phi
  omega
theorem Phi_heap (F m : Nat) : 8 * (((m - 1) / 2 + 1) * (3 * m) + m * (3 * m + 1)) + 2 * m ≤ Phi F m := by
  have h1 : ((m - 1) / 2 + 1) * (3 * m) ≤ (m + 1) * (3 * m) := Nat.mul_le_mul_right _ (by omega)
  have e1 : (m + 1) * (3 * m) = 3 * (m * m) + 3 * m := by rw [Nat.add_mul, Nat.one_mul, Nat.mul_left_comm]
  have e2 : m * (3 * m + 1) = 3 * (m * m) + m := by rw [Nat.mul_add, Nat.mul_one, Nat.mul_left_comm]
  have e3 : (F + m) * m = F * m + m * m := Nat.add_mul _ _ _
  unfold Phi
  rw [e2, e3]
  omega
theorem Phi_ins (F m : Nat) : 8 * ((m - 1) * (2 * m)) ≤ Phi F m := by
  have h1 : (m - 1) * (2 * m) ≤ m * (2 * m) := Nat.mul_le_mul_right _ (by omega)
  have e1 : m * (2 * m) = 2 * (m * m) := Nat.mul_left_comm _ _ _
  have e3 : (F + m) * m = F * m + m * m := Nat.add_mul _ _ _
  unfold Phi
  omega
/-- At the first quarter of a range of 50 or more, the one does not come before the one ahead of it: the range is not taken for a decreasing one. -/
def Chi (T : Nat → Nat → Bool) (a b : Nat) (d : Nat → Nat) : Prop := 50 ≤ b - a ∧ T (d (a + (b - a) / 4 * 1)) (d (a + (b - a) / 4 * 1 - 1)) = false

section
variable {σ : Type} {M : Mach σ} {oth : Nat → Nat → Nat} {T : Nat → Nat → Bool} {v : σ → Nat → Nat}

theorem wy_rdA {lo hi : Nat} (ho : OthOk oth) (a b : Nat) (wb : Bool) (s : σ) (hl : lo ≤ a) (hb : b ≤ hi) : Wy M lo hi 3 s (rdA M oth a b wb s) := by
  unfold rdA
  split
  · exact .nil _ _
  · exact wy_breakP ho a b s hl hb
theorem wy_rdR {lo hi : Nat} (a b : Nat) (c : Nat × Nat × σ) (hab : a < b) (hl : lo ≤ a) (hb : b ≤ hi) : Wy M lo hi (if c.2.1 = 2 then (b - a) / 2 else 0) c.2.2 (rdR M a b c) := by
  unfold rdR
  split
  · exact wy_revR a b _ hab hl hb
  · exact .nil _ _

section
variable (V : View M T v)
include V
omit V in
theorem Bar.lower {c b b' : Nat} {d : Nat → Nat} (h : Bar T c b d) (hb : b' ≤ b) : Bar T c b' d := by
  rcases h with h | h
  · exact .inl h
  · exact .inr fun x h1 h2 => h x h1 (by omega)
omit V in
theorem Bar.same {c b : Nat} {d d' : Nat → Nat} (h : Bar T c b d) (e : ∀ x, x < b → d' x = d x) (hcb : c ≤ b) : Bar T c b d' := by
  rcases h with h | h
  · exact .inl h
  · by_cases h0 : c = 0
    · exact .inl h0
    · refine .inr fun x h1 h2 => ?_
      rw [e x h2, e (c - 1) (by omega)]
      exact h x h1 h2

/-- partialInsertionSort, crudely. -/
theorem rdP_crude {a b c : Nat} {wb wp : Bool} {h : Nat} {s : σ} (hca : c ≤ a) (hab : a < b) (hB : Bar T c b (v s)) :
    ∃ K, Wy M c b K s (rdP M a b wb wp h s).2 ∧ K ≤ 10 * (b - c) + (b - a) + 15 ∧ (wb = false ∨ b - a < 50 → K ≤ b - a) := by
  unfold rdP
  split
  · rename_i hc
    by_cases hm : 50 ≤ b - a
    · obtain ⟨i', t', K, e1, e2, e3, e4, e5, _⟩ := v_partI V hca hm 5 (a + 1) a s (by omega) (by omega) (Nat.le_refl _) hB (fun x h1 h2 => absurd h2 (by omega))
      exact ⟨K, e4, by omega, fun g => by rcases g with g | g; · rw [hc.1] at g; exact absurd g (by decide)
                                          · omega⟩
    · exact ⟨_, v_partI_short (c := c) (by omega) 5 (a + 1) s (by omega), by omega, fun _ => by omega⟩
  · exact ⟨0, .nil _ _, by omega, fun _ => by omega⟩

/-- The head of a round up to the question whether many are equal, crudely. -/
theorem head_crude (ho : OthOk oth) {a b c : Nat} {wb wp : Bool} {s : σ} (hca : c ≤ a) (hab : a < b) (hB : Bar T c b (v s)) :
    ∃ K, Wy M c b K s (rdP M a b wb wp (rdH (chooseP M a b (rdA M oth a b wb s))) (rdR M a b (chooseP M a b (rdA M oth a b wb s)))).2 ∧ K ≤ 10 * (b - c) + 2 * (b - a) + 30 ∧ (wb = false ∨ b - a < 50 → K ≤ 2 * (b - a) + 30) := by
  have w1 := wy_rdA (M := M) (lo := c) (hi := b) ho a b wb s hca (Nat.le_refl _)
  generalize rdA M oth a b wb s = s1 at *
  have w2 := wy_chooseP (M := M) (lo := c) (hi := b) a b s1
  generalize chooseP M a b s1 = ch at *
  have w3 := wy_rdR (M := M) (lo := c) (hi := b) a b ch hab hca (Nat.le_refl _)
  generalize rdR M a b ch = s2 at *
  have w4 := (w1.trans w2).trans w3
  obtain ⟨K, e1, e2, e3⟩ := rdP_crude V (wb := wb) (wp := wp) (h := rdH ch) hca hab (hB.wy V w4)
  have h0 : (if ch.2.1 = 2 then (b - a) / 2 else 0) ≤ (b - a) / 2 := by split <;> omega
  refine ⟨_, w4.trans e1, by omega, fun g => ?_⟩
  have := e3 g
  omega

/-- The head of a round in a range of 50 or more behind a balanced one, sharply: how far it has looked (i), behind what all stands in order (t). -/
theorem head_sharp {a b c : Nat} {wp : Bool} {s : σ} (hca : c ≤ a) (hm : 50 ≤ b - a) (hB : Bar T c b (v s)) :
    ∃ K i t, Wy M c b K s (rdP M a b true wp (rdH (chooseP M a b s)) (rdR M a b (chooseP M a b s))).2 ∧ a + 1 ≤ i ∧ i ≤ b ∧ a + 5 ≤ t ∧
      ((rdP M a b true wp (rdH (chooseP M a b s)) (rdR M a b (chooseP M a b s))).1 = false → Good T t i (v (rdP M a b true wp (rdH (chooseP M a b s)) (rdR M a b (chooseP M a b s))).2)) ∧
      K + 2 * (t - (a + 5)) ≤ (if (chooseP M a b s).2.1 = 2 then (b - a) / 2 else 0) + (i - (a + 1)) + 10 * (b - c) + 27 ∧
      (i = a + 1 ∨ (a + (b - a) / 2 ≤ rdV a b (chooseP M a b s) + 2 ∧ rdV a b (chooseP M a b s) ≤ a + (b - a) / 2 + 2)) ∧
      ((chooseP M a b s).2.1 = 2 → ¬ Chi T a b (v s)) := by
  have hab : a < b := by omega
  have w2 := wy_chooseP (M := M) (lo := c) (hi := b) a b s
  have hf := chooseP_facts (M := M) a b s hm
  have hchi : (chooseP M a b s).2.1 = 2 → ¬ Chi T a b (v s) := fun h2 hc => by
    have := (hf.1 h2).2
    rw [V.less, hc.2] at this
    exact absurd this (by decide)
  generalize chooseP M a b s = ch at *
  have w3 := wy_rdR (M := M) (lo := c) (hi := b) a b ch hab hca (Nat.le_refl _)
  have hV : rdH ch = 1 → a + (b - a) / 2 ≤ rdV a b ch + 2 ∧ rdV a b ch ≤ a + (b - a) / 2 + 2 := fun h1 => by
    unfold rdV
    by_cases h2 : ch.2.1 = 2
    · rw [if_pos h2, (hf.1 h2).1]
      omega
    · unfold rdH at h1
      rw [if_neg h2] at h1
      rw [if_neg h2, hf.2 h1]
      omega
  generalize rdR M a b ch = s2 at *
  have w4 := w2.trans w3
  have hB2 := hB.wy V w4
  unfold rdP
  by_cases hc : true = true ∧ wp = true ∧ rdH ch = 1
  · rw [if_pos hc]
    obtain ⟨i', t', K, e1, e2, e3, e4, e5, e6⟩ := v_partI V hca hm 5 (a + 1) a s2 (by omega) (by omega) (Nat.le_refl _) hB2 (fun x h1 h2 => absurd h2 (by omega))
    exact ⟨_, i', t', w4.trans e4, e1, e2, e3, e6, by omega, .inr (hV hc.2.2), hchi⟩
  · rw [if_neg hc]
    exact ⟨_, a + 1, a + 5, w4, Nat.le_refl _, by omega, Nat.le_refl _, fun _ x h1 h2 => absurd h2 (by omega), by omega, .inl rfl, hchi⟩
end
end
end Go.Proofs.Ytjammaglboehcaa

namespace Go.Proofs.Ytjammaglboehcaa
set_option linter.unusedVariables false

/-- A round that takes the pivot alone: its cost is paid. -/
theorem pay_one {F y a b c i t pv K K2 rev P : Nat} (ha : a = c + F) (hb : b = a + (y + 1)) (hm : 50 ≤ y + 1) (h1 : a + 1 ≤ i) (h2 : i ≤ b) (h3 : a + 5 ≤ t)
    (hr : rev ≤ (y + 1) / 2) (hK : K + 2 * (t - (a + 5)) ≤ rev + (i - (a + 1)) + 10 * (b - c) + 27)
    (hp : i = a + 1 ∨ (a + (y + 1) / 2 ≤ pv + 2 ∧ pv ≤ a + (y + 1) / 2 + 2)) (hg : i = a + 1 ∨ i ≤ pv ∨ pv ≤ t) (h8 : 8 * K2 ≤ P) (hq : i = a + 1 ∨ i ≤ a + 1 + y / 4 * 1 ∨ a + 1 + y / 4 * 1 ≤ t ∨ y < 50 ∨ 8 * K2 + 2 * y ≤ P) :
    8 * (K + 1 + (b - a + 2) + K2) ≤ P + 80 * (F + 1 + y) + 14 * y + 8007 ∧ (rev = 0 → 8 * (K + 1 + (b - a + 2) + K2) + 2 * (b - a) ≤ P + 80 * (F + 1 + y) + 14 * y + 8007) := by
  subst ha hb
  constructor
  · rcases hp with hp | hp
    · omega
    · rcases hg with hg | hg | hg <;> rcases hq with hq | hq | hq | hq | hq <;> omega
  · intro h0
    subst h0
    rcases hp with hp | hp
    · omega
    · rcases hg with hg | hg | hg <;> rcases hq with hq | hq | hq | hq | hq <;> omega

section
variable {σ : Type} {M : Mach σ} {oth : Nat → Nat → Nat} {T : Nat → Nat → Bool} {v : σ → Nat → Nat} (V : View M T v)
include V

theorem pdqL_phi (ho : OthOk oth) : ∀ (f a b c lim : Nat) (wb wp : Bool) (s : σ), c ≤ a → a ≤ b → Bar T c b (v s) →
    ∃ K, Wy M c b K s (pdqL M oth f a b lim wb wp s) ∧ 8 * K ≤ Phi (a - c) (b - a) ∧ (wb = true → Chi T a b (v s) → 8 * K + 2 * (b - a) ≤ Phi (a - c) (b - a))
  | 0, a, b, c, lim, wb, wp, s, hca, hab, hB => by
    have h0 := Phi_lin (a - c) (b - a)
    exact ⟨0, .nil _ _, by omega, fun _ _ => by omega⟩
  | f + 1, a, b, c, lim, wb, wp, s, hca, hab, hB => by
    by_cases h : b - a ≤ 12
    · show ∃ K, Wy M c b K s (if b - a ≤ 12 then _ else _) ∧ _
      rw [if_pos h]
      exact ⟨_, wy_insSort a b s hca (Nat.le_refl _), Phi_ins _ _, fun _ g => absurd g.1 (by omega)⟩
    · by_cases hl : lim = 0
      · subst hl
        rw [pdqL_heap h]
        have h0 := Phi_heap (a - c) (b - a)
        exact ⟨_, wy_heapS a b s hab hca (Nat.le_refl _), by omega, fun _ _ => h0⟩
      · rw [pdqL_round h hl]
        have hpv : a ≤ rdV a b (chooseP M a b (rdA M oth a b wb s)) ∧ rdV a b (chooseP M a b (rdA M oth a b wb s)) < b := by
          have w := way_chooseP (M := M) (n := b) a b (rdA M oth a b wb s) (by omega) (Nat.le_refl _)
          exact rdV_in a b _ w.2.1 w.2.2
        have hcr := head_crude (M := M) (oth := oth) V ho (wb := wb) (wp := wp) (s := s) hca (by omega) hB
        have hsh : wb = true → 50 ≤ b - a → _ := fun e hm => head_sharp (M := M) V (wp := wp) (s := s) hca hm hB
        have hA : wb = true → rdA M oth a b wb s = s := fun e => by unfold rdA; rw [e]; rfl
        have hsh2 : wb = true → 50 ≤ b - a → ∃ K i t rev, Wy M c b K s (rdP M a b wb wp (rdH (chooseP M a b (rdA M oth a b wb s))) (rdR M a b (chooseP M a b (rdA M oth a b wb s)))).2 ∧ a + 1 ≤ i ∧ i ≤ b ∧ a + 5 ≤ t ∧
            ((rdP M a b wb wp (rdH (chooseP M a b (rdA M oth a b wb s))) (rdR M a b (chooseP M a b (rdA M oth a b wb s)))).1 = false → Good T t i (v (rdP M a b wb wp (rdH (chooseP M a b (rdA M oth a b wb s))) (rdR M a b (chooseP M a b (rdA M oth a b wb s)))).2)) ∧
            rev ≤ (b - a) / 2 ∧ K + 2 * (t - (a + 5)) ≤ rev + (i - (a + 1)) + 10 * (b - c) + 27 ∧
            (i = a + 1 ∨ (a + (b - a) / 2 ≤ rdV a b (chooseP M a b (rdA M oth a b wb s)) + 2 ∧ rdV a b (chooseP M a b (rdA M oth a b wb s)) ≤ a + (b - a) / 2 + 2)) ∧ (Chi T a b (v s) → rev = 0) := fun e hm => by
          rw [hA e, e]
          obtain ⟨K, i, t, g1, g2, g3, g4, g5, g6, g7, g8⟩ := head_sharp (M := M) V (wp := wp) (s := s) hca hm hB
          refine ⟨K, i, t, _, g1, g2, g3, g4, g5, ?_, g6, g7, fun hc => ?_⟩
          · split <;> omega
          · by_cases h2 : (chooseP M a b s).2.1 = 2
            · exact absurd hc (g8 h2)
            · rw [if_neg h2]
        clear hsh
        generalize rdV a b (chooseP M a b (rdA M oth a b wb s)) = pv at *
        generalize rdP M a b wb wp (rdH (chooseP M a b (rdA M oth a b wb s))) (rdR M a b (chooseP M a b (rdA M oth a b wb s))) = p at *
        obtain ⟨Kc, wc, kc1, kc2⟩ := hcr
        have hsq := Phi_sq (a - c) (b - a) (by omega)
        have hFm : a - c + (b - a) = b - c := by omega
        rw [hFm] at hsq
        by_cases hp1 : p.1 = true
        · rw [if_pos hp1]
          exact ⟨Kc, wc, by omega, fun _ _ => by omega⟩
        · rw [if_neg hp1]
          have hp1 : p.1 = false := Bool.eq_false_iff.2 hp1
          unfold rdT
          by_cases hE : 0 < a ∧ M.less p.2 (a - 1) pv = false
          · rw [if_pos hE]
            unfold rdE
            have et : v (M.tick p.2 (a - 1) pv) = v p.2 := V.tick _ _ _
            have wt : Wy M c b 1 p.2 (M.tick p.2 (a - 1) pv) := Wy.tick1 _ _ _
            generalize M.tick p.2 (a - 1) pv = t0 at *
            have we := wy_partEq (M := M) (lo := c) (hi := b) a b pv t0 hpv.1 hpv.2 hca (Nat.le_refl _)
            have h1 := fun hr => partEq_one V (s := t0) hca hpv.1 hpv.2 (by omega) hr
            generalize partEq M a b pv t0 = r at *
            obtain ⟨r1, s'⟩ := r
            dsimp only at *
            have hB' : Bar T c b (v s') := hB.wy V ((wc.trans wt).trans we.1)
            obtain ⟨K2, w2, k2, k2c⟩ := pdqL_phi ho f r1 b c (limN lim wb) wb wp s' (by omega) we.2.2 hB'
            by_cases hr : r1 = a + 1
            · obtain ⟨y, hy⟩ : ∃ y, b - a = y + 1 := ⟨b - a - 1, by omega⟩
              have hP : Phi (a - c) (y + 1) = Phi (r1 - c) y + 80 * (a - c + 1 + y) + 14 * y + 8007 := by rw [show r1 - c = a - c + 1 by omega]; exact Phi_one (a - c) y
              rw [show b - r1 = y by omega] at k2
              by_cases hsharp : wb = true ∧ 50 ≤ b - a
              · obtain ⟨K, i, t, rev, g1, g2, g3, g4, g5, g6, g7, g8, g9⟩ := hsh2 hsharp.1 hsharp.2
                obtain ⟨q1, q2, q3⟩ := h1 hr
                have hGd := g5 hp1
                have hg : i = a + 1 ∨ i ≤ pv ∨ pv ≤ t := by
                  by_cases hh : i = a + 1 ∨ i ≤ pv ∨ pv ≤ t
                  · exact hh
                  · have h6 := hGd pv (by omega) (by omega)
                    have h7 := q3 (pv - 1) (by omega) (by omega)
                    unfold swapF at h7
                    rw [if_neg (by omega), if_neg (by omega), et, h6] at h7
                    exact absurd h7 (by decide)
                have hq : i = a + 1 ∨ i ≤ a + 1 + y / 4 * 1 ∨ a + 1 + y / 4 * 1 ≤ t ∨ y < 50 ∨ 8 * K2 + 2 * y ≤ Phi (r1 - c) y := by
                  by_cases hh : i = a + 1 ∨ i ≤ a + 1 + y / 4 * 1 ∨ a + 1 + y / 4 * 1 ≤ t ∨ y < 50
                  · omega
                  · have hx : Chi T r1 b (v s') := by
                      refine ⟨by omega, ?_⟩
                      rw [show b - r1 = y by omega, hr, q2, et]
                      unfold swapF
                      rw [if_neg (by omega), if_neg (by omega), if_neg (by omega), if_neg (by omega)]
                      exact hGd _ (by omega) (by omega)
                    have h6 := k2c hsharp.1 hx
                    rw [show b - r1 = y by omega] at h6
                    omega
                have hpay := pay_one (F := a - c) (y := y) (P := Phi (r1 - c) y) (pv := pv) (by omega) (by omega) (by omega) g2 g3 g4 (by rw [← hy]; exact g6) g7 (by rw [← hy]; exact g8) hg k2 hq
                refine ⟨K + 1 + (b - a + 2) + K2, ((g1.trans wt).trans q1).trans w2, ?_, fun _ hc => ?_⟩
                · rw [hy, hP, ← hy]; exact hpay.1
                · have := hpay.2 (g9 hc)
                  rw [hy] at this ⊢
                  rw [hP]; exact this
              · have kc3 := kc2 (by
                  by_cases hw : wb = true
                  · exact .inr (Nat.lt_of_not_le fun z => hsharp ⟨hw, z⟩)
                  · exact .inl (Bool.eq_false_iff.2 hw))
                obtain ⟨q1, q2, q3⟩ := h1 hr
                refine ⟨Kc + 1 + (b - a + 2) + K2, ((wc.trans wt).trans q1).trans w2, ?_, fun _ hc => ?_⟩
                · rw [hy, hP]; omega
                · rw [hy, hP]; omega
            · obtain ⟨τ, hτ⟩ : ∃ τ, r1 = a + τ := ⟨r1 - a, by omega⟩
              have hP := Phi_more (a - c) τ (b - r1) (by omega)
              rw [show a - c + τ = r1 - c by omega, show τ + (b - r1) = b - a by omega] at hP
              exact ⟨Kc + 1 + (2 * (b - a) + 3) + K2, ((wc.trans wt).trans we.1).trans w2, by omega, fun _ _ => by omega⟩
          · rw [if_neg hE]
            have wt : Wy M c b 1 p.2 (if 0 < a then M.tick p.2 (a - 1) pv else p.2) := by
              split
              · exact Wy.tick1 _ _ _
              · exact .nil _ _
            generalize (if 0 < a then M.tick p.2 (a - 1) pv else p.2) = t0 at *
            unfold rdU
            have wp' := wy_partit (M := M) (lo := c) (hi := b) a b pv t0 hpv.1 hpv.2 hca (Nat.le_refl _)
            have hbar := partit_bar V (s := t0) hpv.1 hpv.2
            generalize partit M a b pv t0 = r at *
            obtain ⟨mid, ap, s'⟩ := r
            dsimp only at *
            have hB' : Bar T c b (v s') := hB.wy V ((wc.trans wt).trans wp'.1)
            have hP := Phi_part (a - c) (mid - a) (b - (mid + 1))
            rw [show mid - a + (b - (mid + 1)) + 1 = b - a by omega] at hP
            split
            · obtain ⟨K1, w1, k1, _⟩ := pdqL_phi ho f a mid c (limN lim wb) true true s' hca wp'.2.1 (hB'.lower (by omega))
              have hBr : Bar T (mid + 1) b (v (pdqL M oth f a mid (limN lim wb) true true s')) := .inr fun x h1 h2 => by
                rw [w1.out V (x := x) (by omega), Nat.add_sub_cancel, w1.out V (x := mid) (by omega)]
                exact hbar x (by omega) h2
              obtain ⟨K2, w2, k2, _⟩ := pdqL_phi ho f (mid + 1) b (mid + 1) (limN lim wb) (decide ((b - a) / 8 ≤ mid - a)) ap _ (Nat.le_refl _) (by omega) hBr
              rw [Nat.sub_self] at k2
              exact ⟨Kc + 1 + (2 * (b - a) + 4) + K1 + K2, ((((wc.trans wt).trans wp'.1).trans (w1.wide (Nat.le_refl _) (by omega))).trans (w2.wide (by omega) (Nat.le_refl _))), by omega, fun _ _ => by omega⟩
            · obtain ⟨K1, w1, k1, _⟩ := pdqL_phi ho f (mid + 1) b (mid + 1) (limN lim wb) true true s' (Nat.le_refl _) (by omega) (.inr fun x h1 h2 => by rw [Nat.add_sub_cancel]; exact hbar x (by omega) h2)
              have hBl : Bar T c mid (v (pdqL M oth f (mid + 1) b (limN lim wb) true true s')) := (hB'.lower (b' := mid) (by omega)).same (fun x hx => w1.out V (.inl (by omega))) (by omega)
              obtain ⟨K2, w2, k2, _⟩ := pdqL_phi ho f a mid c (limN lim wb) (decide ((b - a) / 8 ≤ b - mid)) ap _ hca (by omega) hBl
              rw [Nat.sub_self] at k1
              exact ⟨Kc + 1 + (2 * (b - a) + 4) + K1 + K2, ((((wc.trans wt).trans wp'.1).trans (w1.wide (by omega) (Nat.le_refl _))).trans (w2.wide (Nat.le_refl _) (by omega))), by omega, fun _ _ => by omega⟩
end
end Go.Proofs.Ytjammaglboehcaa

namespace Go.Proofs.Ytjammaglboehcaa
set_option linter.unusedVariables false

def Psi (N : Nat) : Nat := 68 * (N * N) + 10000 * N
theorem Psi_bal1 (F u w : Nat) (h1 : u ≤ w) (h2 : w ≤ 7 * u + 20) : Phi F u + Phi 0 w ≤ Psi (F + u + w + 1) := by
  obtain ⟨d, rfl⟩ := Nat.exists_eq_add_of_le h1
  have hd : d ≤ 6 * u + 20 := by omega
  have h3 : d * d ≤ (6 * u + 20) * d := Nat.mul_le_mul_right _ hd
  have h4 : u * d ≤ u * (6 * u + 20) := Nat.mul_le_mul_left _ hd
  unfold Phi Psi
  simp only [Nat.mul_add, Nat.add_mul, Nat.mul_one, Nat.one_mul, Nat.zero_add, Nat.mul_assoc, Nat.mul_left_comm u 6, Nat.mul_comm u F, Nat.mul_comm d F, Nat.mul_comm d u] at h3 h4 ⊢
  omega
theorem Psi_bal2 (F u w : Nat) (h1 : w ≤ u) (h2 : u ≤ 7 * w + 20) : Phi F u + Phi 0 w ≤ Psi (F + u + w + 1) := by
  obtain ⟨d, rfl⟩ := Nat.exists_eq_add_of_le h1
  have hd : d ≤ 6 * w + 20 := by omega
  have h3 : d * d ≤ (6 * w + 20) * d := Nat.mul_le_mul_right _ hd
  have h4 : w * d ≤ w * (6 * w + 20) := Nat.mul_le_mul_left _ hd
  unfold Phi Psi
  simp only [Nat.mul_add, Nat.add_mul, Nat.mul_one, Nat.one_mul, Nat.zero_add, Nat.mul_assoc, Nat.mul_left_comm w 6, Nat.mul_comm w F, Nat.mul_comm d F, Nat.mul_comm d w] at h3 h4 ⊢
  omega
theorem Psi_un1 (F u w : Nat) (h1 : 7 * u ≤ w + 8) : Phi F u + Psi w ≤ Psi (F + u + w + 1) := by
  have h3 : 7 * (u * u) ≤ (w + 8) * u := by rw [← Nat.mul_assoc]; exact Nat.mul_le_mul_right _ h1
  unfold Phi Psi
  simp only [Nat.mul_add, Nat.add_mul, Nat.mul_one, Nat.one_mul, Nat.mul_comm u F, Nat.mul_comm w F, Nat.mul_comm w u] at h3 ⊢
  omega
theorem Psi_un2 (N w : Nat) (h1 : 7 * w ≤ N + 8) : Phi 0 w + Psi N ≤ Psi (N + w + 1) := by
  have h3 : 7 * (w * w) ≤ (N + 8) * w := by rw [← Nat.mul_assoc]; exact Nat.mul_le_mul_right _ h1
  unfold Phi Psi
  simp only [Nat.mul_add, Nat.add_mul, Nat.mul_one, Nat.one_mul, Nat.zero_add, Nat.mul_comm w N] at h3 ⊢
  omega
theorem Psi_lin (N : Nat) : 10000 * N ≤ Psi N := by unfold Psi; omega
theorem Psi_heap (F m : Nat) : 8 * (((m - 1) / 2 + 1) * (3 * m) + m * (3 * m + 1)) ≤ Psi (F + m) := by
  have h1 : ((m - 1) / 2 + 1) * (3 * m) ≤ (m + 1) * (3 * m) := Nat.mul_le_mul_right _ (by omega)
  have e1 : (m + 1) * (3 * m) = 3 * (m * m) + 3 * m := by rw [Nat.add_mul, Nat.one_mul, Nat.mul_left_comm]
  have e2 : m * (3 * m + 1) = 3 * (m * m) + m := by rw [Nat.mul_add, Nat.mul_one, Nat.mul_left_comm]
  have e3 : (F + m) * (F + m) = F * (F + m) + (m * F + m * m) := by rw [Nat.add_mul, Nat.mul_add m]
  unfold Psi
  rw [e2, e3]
  omega
theorem Psi_ins (F m : Nat) : 8 * ((m - 1) * (2 * m)) ≤ Psi (F + m) := by
  have h1 : (m - 1) * (2 * m) ≤ m * (2 * m) := Nat.mul_le_mul_right _ (by omega)
  have e1 : m * (2 * m) = 2 * (m * m) := Nat.mul_left_comm _ _ _
  have e3 : (F + m) * (F + m) = F * (F + m) + (m * F + m * m) := by rw [Nat.add_mul, Nat.mul_add m]
  unfold Psi
  rw [e3]
  omega
/-- What a limit of so many unbalanced rounds adds. -/
def Ext (l N : Nat) : Nat := l * (40 * N + 400)
theorem Ext_le {l l' N N' : Nat} (h1 : l ≤ l') (h2 : N ≤ N') : Ext l N ≤ Ext l' N' := Nat.mul_le_mul h1 (by omega)
theorem Ext_succ (l N : Nat) : Ext (l + 1) N = Ext l N + (40 * N + 400) := Nat.succ_mul _ _

section
variable {σ : Type} {M : Mach σ} {oth : Nat → Nat → Nat} {T : Nat → Nat → Bool} {v : σ → Nat → Nat} (V : View M T v)
include V

theorem pdqL_psi (ho : OthOk oth) : ∀ (f a b c lim : Nat) (wb wp : Bool) (s : σ), (wb = false ∨ a = 0) → c ≤ a → a ≤ b → Bar T c b (v s) →
    ∃ K, Wy M c b K s (pdqL M oth f a b lim wb wp s) ∧ 8 * K ≤ Psi (b - c) + Ext lim (b - c) + (if wb then 120 * (b - c) + 400 else 0)
  | 0, a, b, c, lim, wb, wp, s, hw, hca, hab, hB => ⟨0, .nil _ _, by omega⟩
  | f + 1, a, b, c, lim, wb, wp, s, hw, hca, hab, hB => by
    have hFm : a - c + (b - a) = b - c := by omega
    by_cases h : b - a ≤ 12
    · show ∃ K, Wy M c b K s (if b - a ≤ 12 then _ else _) ∧ _
      rw [if_pos h]
      have h0 := Psi_ins (a - c) (b - a)
      rw [hFm] at h0
      exact ⟨_, wy_insSort a b s hca (Nat.le_refl _), by omega⟩
    · by_cases hl : lim = 0
      · subst hl
        rw [pdqL_heap h]
        have h0 := Psi_heap (a - c) (b - a)
        rw [hFm] at h0
        exact ⟨_, wy_heapS a b s hab hca (Nat.le_refl _), by omega⟩
      · rw [pdqL_round h hl]
        have hpv : a ≤ rdV a b (chooseP M a b (rdA M oth a b wb s)) ∧ rdV a b (chooseP M a b (rdA M oth a b wb s)) < b := by
          have w := way_chooseP (M := M) (n := b) a b (rdA M oth a b wb s) (by omega) (Nat.le_refl _)
          exact rdV_in a b _ w.2.1 w.2.2
        obtain ⟨Kc, wc, kc1, kc2⟩ := head_crude (M := M) (oth := oth) V ho (wb := wb) (wp := wp) (s := s) hca (by omega) hB
        generalize rdV a b (chooseP M a b (rdA M oth a b wb s)) = pv at *
        generalize rdP M a b wb wp (rdH (chooseP M a b (rdA M oth a b wb s))) (rdR M a b (chooseP M a b (rdA M oth a b wb s))) = p at *
        have hlin := Psi_lin (b - c)
        -- what this round may cost
        have hcost : 8 * (Kc + 1 + (2 * (b - a) + 4)) + Ext (limN lim wb) (b - c) ≤ Ext lim (b - c) + (if wb then 120 * (b - c) + 400 else 0) := by
          obtain ⟨l, rfl⟩ : ∃ l, lim = l + 1 := ⟨lim - 1, by omega⟩
          cases wb
          · have h1 := kc2 (.inl rfl)
            have h2 : limN (l + 1) false = l := rfl
            rw [h2, Ext_succ, if_neg (by decide)]
            omega
          · have h2 : limN (l + 1) true = l + 1 := rfl
            rw [h2, if_pos rfl]
            omega
        by_cases hp1 : p.1 = true
        · rw [if_pos hp1]
          exact ⟨Kc, wc, by omega⟩
        · rw [if_neg hp1]
          unfold rdT
          by_cases hE : 0 < a ∧ M.less p.2 (a - 1) pv = false
          · rw [if_pos hE]
            obtain rfl : wb = false := by
              rcases hw with hw | hw
              · exact hw
              · exact absurd hE.1 (by omega)
            unfold rdE
            have wt : Wy M c b 1 p.2 (M.tick p.2 (a - 1) pv) := Wy.tick1 _ _ _
            generalize M.tick p.2 (a - 1) pv = t0 at *
            have we := wy_partEq (M := M) (lo := c) (hi := b) a b pv t0 hpv.1 hpv.2 hca (Nat.le_refl _)
            generalize partEq M a b pv t0 = r at *
            obtain ⟨r1, s'⟩ := r
            dsimp only at *
            have hB' : Bar T c b (v s') := hB.wy V ((wc.trans wt).trans we.1)
            obtain ⟨K2, w2, k2⟩ := pdqL_psi ho f r1 b c (limN lim false) false wp s' (.inl rfl) (by omega) we.2.2 hB'
            rw [if_neg (by decide)] at k2
            exact ⟨Kc + 1 + (2 * (b - a) + 3) + K2, ((wc.trans wt).trans we.1).trans w2, by omega⟩
          · rw [if_neg hE]
            have wt : Wy M c b 1 p.2 (if 0 < a then M.tick p.2 (a - 1) pv else p.2) := by
              split
              · exact Wy.tick1 _ _ _
              · exact .nil _ _
            generalize (if 0 < a then M.tick p.2 (a - 1) pv else p.2) = t0 at *
            unfold rdU
            have wp' := wy_partit (M := M) (lo := c) (hi := b) a b pv t0 hpv.1 hpv.2 hca (Nat.le_refl _)
            have hbar := partit_bar V (s := t0) hpv.1 hpv.2
            generalize partit M a b pv t0 = r at *
            obtain ⟨mid, ap, s'⟩ := r
            dsimp only at *
            have hB' : Bar T c b (v s') := hB.wy V ((wc.trans wt).trans wp'.1)
            have hN : a - c + (mid - a) + (b - (mid + 1)) + 1 = b - c := by omega
            split
            · rename_i hlr
              obtain ⟨K1, w1, k1, _⟩ := pdqL_phi V ho f a mid c (limN lim wb) true true s' hca wp'.2.1 (hB'.lower (by omega))
              have hBr : Bar T (mid + 1) b (v (pdqL M oth f a mid (limN lim wb) true true s')) := .inr fun x h1 h2 => by
                rw [w1.out V (x := x) (by omega), Nat.add_sub_cancel, w1.out V (x := mid) (by omega)]
                exact hbar x (by omega) h2
              by_cases hbal : (b - a) / 8 ≤ mid - a
              · obtain ⟨K2, w2, k2, _⟩ := pdqL_phi V ho f (mid + 1) b (mid + 1) (limN lim wb) (decide ((b - a) / 8 ≤ mid - a)) ap _ (Nat.le_refl _) (by omega) hBr
                rw [Nat.sub_self] at k2
                have hP := Psi_bal1 (a - c) (mid - a) (b - (mid + 1)) (by omega) (by omega)
                rw [hN] at hP
                exact ⟨Kc + 1 + (2 * (b - a) + 4) + K1 + K2, ((((wc.trans wt).trans wp'.1).trans (w1.wide (Nat.le_refl _) (by omega))).trans (w2.wide (by omega) (Nat.le_refl _))), by omega⟩
              · rw [decide_eq_false hbal]
                obtain ⟨K2, w2, k2⟩ := pdqL_psi ho f (mid + 1) b (mid + 1) (limN lim wb) false ap _ (.inl rfl) (Nat.le_refl _) (by omega) hBr
                rw [if_neg (by decide)] at k2
                have hP := Psi_un1 (a - c) (mid - a) (b - (mid + 1)) (by omega)
                rw [hN] at hP
                have hX := Ext_le (Nat.le_refl (limN lim wb)) (show b - (mid + 1) ≤ b - c by omega)
                exact ⟨Kc + 1 + (2 * (b - a) + 4) + K1 + K2, ((((wc.trans wt).trans wp'.1).trans (w1.wide (Nat.le_refl _) (by omega))).trans (w2.wide (by omega) (Nat.le_refl _))), by omega⟩
            · rename_i hlr
              obtain ⟨K1, w1, k1, _⟩ := pdqL_phi V ho f (mid + 1) b (mid + 1) (limN lim wb) true true s' (Nat.le_refl _) (by omega) (.inr fun x h1 h2 => by rw [Nat.add_sub_cancel]; exact hbar x (by omega) h2)
              have hBl : Bar T c mid (v (pdqL M oth f (mid + 1) b (limN lim wb) true true s')) := (hB'.lower (b' := mid) (by omega)).same (fun x hx => w1.out V (.inl (by omega))) (by omega)
              rw [Nat.sub_self] at k1
              by_cases hbal : (b - a) / 8 ≤ b - mid
              · obtain ⟨K2, w2, k2, _⟩ := pdqL_phi V ho f a mid c (limN lim wb) (decide ((b - a) / 8 ≤ b - mid)) ap _ hca (by omega) hBl
                have hP := Psi_bal2 (a - c) (mid - a) (b - (mid + 1)) (by omega) (by omega)
                rw [hN] at hP
                exact ⟨Kc + 1 + (2 * (b - a) + 4) + K1 + K2, ((((wc.trans wt).trans wp'.1).trans (w1.wide (by omega) (Nat.le_refl _))).trans (w2.wide (Nat.le_refl _) (by omega))), by omega⟩
              · rw [decide_eq_false hbal]
                obtain ⟨K2, w2, k2⟩ := pdqL_psi ho f a mid c (limN lim wb) false ap _ (.inl rfl) hca (by omega) hBl
                rw [if_neg (by decide)] at k2
                have hP := Psi_un2 (mid - c) (b - (mid + 1)) (by omega)
                rw [show mid - c + (b - (mid + 1)) + 1 = b - c by omega] at hP
                have hX := Ext_le (Nat.le_refl (limN lim wb)) (show mid - c ≤ b - c by omega)
                exact ⟨Kc + 1 + (2 * (b - a) + 4) + K1 + K2, ((((wc.trans wt).trans wp'.1).trans (w1.wide (by omega) (Nat.le_refl _))).trans (w2.wide (Nat.le_refl _) (by omega))), by omega⟩

/-- A list of at most 1048576: so many questions and swaps. -/
theorem pdqS_cost (ho : OthOk oth) {c : σ → Nat} (G : Costs M c) (n : Nat) (s : σ) (hn : n ≤ 1048576) : c (pdqS M oth n s) ≤ c s + 9381000000000 := by
  unfold pdqS
  split
  · omega
  · rename_i h1
    obtain ⟨K, w, k⟩ := pdqL_psi V ho n 0 n 0 (bitsL n) true true s (.inr rfl) (Nat.le_refl _) (Nat.zero_le _) (.inl rfl)
    have h2 := w.cost G
    rw [Nat.sub_zero, if_pos rfl] at k
    have hb : bitsL n ≤ 21 := by
      unfold bitsL
      rw [if_neg (by omega)]
      have := (Nat.log2_lt (n := n) (k := 21) (by omega)).2 (by omega)
      omega
    have h3 := Ext_le hb hn
    have h4 : n * n ≤ 1048576 * 1048576 := Nat.mul_le_mul hn hn
    unfold Psi at k
    have h5 : Ext 21 1048576 = 880812240 := rfl
    omega
end
end Go.Proofs.Ytjammaglboehcaa
