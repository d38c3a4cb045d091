/-
  What the stable sort does to a view of the machine's state: fourth part: the whole sort. No program of Go is named here.
-/
import Derived.Test.YtkklbnheiganlaaStP3
namespace Go.Proofs.Ytkklbnheiganlaa
set_option linter.unusedVariables false

/-- [lo, hi) has its own numbers, in order. -/
def Seg (T : Nat → Nat → Bool) (d : Nat → Nat) (lo hi : Nat) : Prop := (∀ k, lo ≤ k → k < hi → lo ≤ d k ∧ d k < hi) ∧ Ord T d lo hi
theorem Seg.congr {T : Nat → Nat → Bool} {d d' : Nat → Nat} {lo hi : Nat} (h : Seg T d lo hi) (he : ∀ x, lo ≤ x → x < hi → d' x = d x) : Seg T d' lo hi :=
  ⟨fun k h1 h2 => by rw [he k h1 h2]; exact h.1 k h1 h2, fun x y h1 h2 h3 => by rw [he x h1 (by omega), he y (by omega) h3]; exact h.2 x y h1 h2 h3⟩
theorem Seg.none {T : Nat → Nat → Bool} {d : Nat → Nat} {lo hi : Nat} (h : hi ≤ lo) : Seg T d lo hi := ⟨fun k h1 h2 => absurd h2 (by omega), fun x y h1 h2 h3 => absurd h3 (by omega)⟩

section
variable {σ : Type} {M : Mach σ} {T : Nat → Nat → Bool} {v : σ → Nat → Nat}

theorem seg_merge (S : Swo T) (V : View M T v) (a m b : Nat) (s : σ) (h1 : a < m) (h2 : m < b) (hl : Seg T (v s) a m) (hr : Seg T (v s) m b) :
    Seg T (v (symMerge M a m b s)) a b ∧ ∀ x, ¬ (a ≤ x ∧ x < b) → v (symMerge M a m b s) x = v s x := by
  obtain ⟨hi, hm⟩ := symM_ok S V (b - a) a m b s h1 h2 (Nat.le_refl _)
  refine ⟨⟨fun k q1 q2 => ?_, hm m hl.2 hr.2 (fun k q1 q2 => (hl.1 k q1 q2).2) (fun k q1 q2 => (hr.1 k q1 q2).1)⟩, hi.2⟩
  obtain ⟨l, l1, l2, e⟩ := hi.1 k q1 q2
  show a ≤ v (symM M (b - a) a m b s) k ∧ v (symM M (b - a) a m b s) k < b
  rw [e]
  rcases Nat.lt_or_ge l m with c | c
  · have := hl.1 l l1 c; omega
  · have := hr.1 l c l2; omega

theorem insOuter_seg (S : Swo T) (V : View M T v) (a : Nat) : ∀ (k i : Nat) (s : σ), a ≤ i → Seg T (v s) a i → (∀ x, i ≤ x → x < i + k → v s x = x) →
    Seg T (v (insOuter M a k i s)) a (i + k) ∧ ∀ x, ¬ (a ≤ x ∧ x < i + k) → v (insOuter M a k i s) x = v s x
  | 0, i, s, h, hs, hx => ⟨hs, fun _ _ => rfl⟩
  | k + 1, i, s, h, hs, hx => by
    obtain ⟨hi, ho⟩ := insInner_ord S V a i s h
    have hii := hx i (Nat.le_refl _) (by omega)
    have hs1 : Seg T (v (insInner M a i s)) a (i + 1) := ⟨fun y q1 q2 => by
      obtain ⟨l, l1, l2, e⟩ := hi.1 y q1 q2
      rw [e]
      rcases Nat.lt_or_ge l i with c | c
      · have := hs.1 l l1 c; omega
      · obtain rfl : l = i := by omega
        omega, ho hs.2 (fun y q1 q2 => by rw [hii]; exact (hs.1 y q1 q2).2)⟩
    have ih := insOuter_seg S V a k (i + 1) (insInner M a i s) (by omega) hs1 (fun x q1 q2 => by rw [hi.2 x (by omega)]; exact hx x (by omega) (by omega))
    rw [show i + 1 + k = i + (k + 1) by omega] at ih
    exact ⟨ih.1, fun x hx2 => (ih.2 x hx2).trans (hi.2 x (by omega))⟩

theorem insSort_seg (S : Swo T) (V : View M T v) (a b : Nat) (s : σ) (h : a ≤ b) (hx : ∀ x, a ≤ x → x < b → v s x = x) :
    Seg T (v (insSort M a b s)) a b ∧ ∀ x, ¬ (a ≤ x ∧ x < b) → v (insSort M a b s) x = v s x := by
  unfold insSort
  rcases Nat.lt_or_ge a b with c | c
  · have h1 : Seg T (v s) a (a + 1) := ⟨fun k q1 q2 => by
      obtain rfl : k = a := by omega
      rw [hx k (Nat.le_refl _) c]; omega, fun x y q1 q2 q3 => absurd q3 (by omega)⟩
    have := insOuter_seg S V a (b - (a + 1)) (a + 1) s (by omega) h1 (fun x q1 q2 => hx x (by omega) (by omega))
    rw [show a + 1 + (b - (a + 1)) = b by omega] at this
    exact this
  · rw [show b - (a + 1) = 0 by omega]
    exact ⟨Seg.none c, fun _ _ => rfl⟩

theorem stBlocks_seg (S : Swo T) (V : View M T v) (n : Nat) : ∀ (k a : Nat) (s : σ), a ≤ n → n - a ≤ k → (∀ x, a ≤ x → x < n → v s x = x) →
    ∃ u, (stBlocks M n k a s).1 = a + u * 20 ∧ (stBlocks M n k a s).1 ≤ n ∧ n < (stBlocks M n k a s).1 + 20 ∧ (∀ t, t < u → Seg T (v (stBlocks M n k a s).2) (a + t * 20) (a + (t + 1) * 20)) ∧
      (∀ x, (x < a ∨ (stBlocks M n k a s).1 ≤ x) → v (stBlocks M n k a s).2 x = v s x)
  | 0, a, s, h1, h2, hx => ⟨0, by show a = a + 0 * 20; omega, h1, by show n < a + 20; omega, fun t ht => absurd ht (Nat.not_lt_zero _), fun _ _ => rfl⟩
  | k + 1, a, s, h1, h2, hx => by
    by_cases c : a + 20 ≤ n
    · rw [show stBlocks M n (k + 1) a s = stBlocks M n k (a + 20) (insSort M a (a + 20) s) by
        show (if a + 20 ≤ n then _ else _) = _; rw [if_pos c]]
      obtain ⟨hs, ho⟩ := insSort_seg S V a (a + 20) s (by omega) (fun x q1 q2 => hx x q1 (by omega))
      obtain ⟨u, u1, u2, u3, u4, u5⟩ := stBlocks_seg S V n k (a + 20) (insSort M a (a + 20) s) c (by omega) (fun x q1 q2 => by rw [ho x (by omega)]; exact hx x (by omega) q2)
      refine ⟨u + 1, by rw [u1]; omega, u2, u3, fun t ht => ?_, fun x q => by rw [u5 x (by omega), ho x (by omega)]⟩
      cases t with
      | zero =>
        refine Seg.congr (d := v (insSort M a (a + 20) s)) ?_ (fun x q1 q2 => u5 x (by omega))
        rw [show a + 0 * 20 = a by omega, show a + (0 + 1) * 20 = a + 20 by omega]; exact hs
      | succ t =>
        have := u4 t (by omega)
        rw [show a + (t + 1) * 20 = a + 20 + t * 20 by omega, show a + (t + 1 + 1) * 20 = a + 20 + (t + 1) * 20 by omega]
        exact this
    · rw [show stBlocks M n (k + 1) a s = (a, s) by
        show (if a + 20 ≤ n then _ else _) = _; rw [if_neg c]]
      exact ⟨0, by show a = a + 0 * 20; omega, h1, by show n < a + 20; omega, fun t ht => absurd ht (Nat.not_lt_zero _), fun _ _ => rfl⟩

/-- The list is in runs of bs from a on. -/
def Segs (T : Nat → Nat → Bool) (bs n a : Nat) (d : Nat → Nat) : Prop := ∀ t, a + t * bs < n → Seg T d (a + t * bs) (min (a + (t + 1) * bs) n)

theorem stPass_seg (S : Swo T) (V : View M T v) (n bs : Nat) (hbs : 1 ≤ bs) : ∀ (k a : Nat) (s : σ), a ≤ n → n - a ≤ k → Segs T bs n a (v s) →
    ∃ u, (stPass M n bs k a s).1 = a + u * (2 * bs) ∧ (stPass M n bs k a s).1 ≤ n ∧ n < (stPass M n bs k a s).1 + 2 * bs ∧ (∀ t, t < u → Seg T (v (stPass M n bs k a s).2) (a + t * (2 * bs)) (a + (t + 1) * (2 * bs))) ∧
      Segs T bs n (stPass M n bs k a s).1 (v (stPass M n bs k a s).2) ∧ (∀ x, x < a → v (stPass M n bs k a s).2 x = v s x)
  | 0, a, s, h1, h2, hx => ⟨0, by show a = a + 0 * (2 * bs); omega, h1, by show n < a + 2 * bs; omega, fun t ht => absurd ht (Nat.not_lt_zero _), hx, fun _ _ => rfl⟩
  | k + 1, a, s, h1, h2, hx => by
    by_cases c : a + 2 * bs ≤ n
    · rw [show stPass M n bs (k + 1) a s = stPass M n bs k (a + 2 * bs) (symMerge M a (a + bs) (a + 2 * bs) s) by
        show (if a + 2 * bs ≤ n then _ else _) = _; rw [if_pos c]]
      have s0 := hx 0 (by omega)
      have s1 := hx 1 (by omega)
      rw [show a + 0 * bs = a by omega, show min (a + (0 + 1) * bs) n = a + bs by omega] at s0
      rw [show a + 1 * bs = a + bs by omega, show min (a + (1 + 1) * bs) n = a + 2 * bs by omega] at s1
      obtain ⟨hs, ho⟩ := seg_merge S V a (a + bs) (a + 2 * bs) s (by omega) (by omega) s0 s1
      obtain ⟨u, u1, u2, u3, u4, u5, u6⟩ := stPass_seg S V n bs hbs k (a + 2 * bs) (symMerge M a (a + bs) (a + 2 * bs) s) c (by omega) (fun t ht => by
        have e1 : (t + 2) * bs = t * bs + 2 * bs := Nat.add_mul t 2 bs
        have e2 : (t + 2 + 1) * bs = (t + 1) * bs + 2 * bs := by rw [show t + 2 + 1 = t + 1 + 2 by omega]; exact Nat.add_mul (t + 1) 2 bs
        have := hx (t + 2) (by omega)
        rw [show a + (t + 2) * bs = a + 2 * bs + t * bs by omega, show a + (t + 2 + 1) * bs = a + 2 * bs + (t + 1) * bs by omega] at this
        exact this.congr (fun x q1 q2 => ho x (by omega)))
      refine ⟨u + 1, by rw [u1, Nat.add_mul]; omega, u2, u3, fun t ht => ?_, u5, fun x q => by rw [u6 x (by omega), ho x (by omega)]⟩
      cases t with
      | zero =>
        refine Seg.congr (d := v (symMerge M a (a + bs) (a + 2 * bs) s)) ?_ (fun x q1 q2 => u6 x (by omega))
        rw [show a + 0 * (2 * bs) = a by omega, show a + (0 + 1) * (2 * bs) = a + 2 * bs by omega]; exact hs
      | succ t =>
        have := u4 t (by omega)
        rw [show a + (t + 1) * (2 * bs) = a + 2 * bs + t * (2 * bs) by rw [Nat.add_mul]; omega, show a + (t + 1 + 1) * (2 * bs) = a + 2 * bs + (t + 1) * (2 * bs) by rw [Nat.add_mul (t + 1)]; omega]
        exact this
    · rw [show stPass M n bs (k + 1) a s = (a, s) by
        show (if a + 2 * bs ≤ n then _ else _) = _; rw [if_neg c]]
      exact ⟨0, by show a = a + 0 * (2 * bs); omega, h1, by show n < a + 2 * bs; omega, fun t ht => absurd ht (Nat.not_lt_zero _), hx, fun _ _ => rfl⟩

/-- Runs up to a, and one more to the end. -/
theorem segs_of {T : Nat → Nat → Bool} {bs n u a : Nat} {d : Nat → Nat} (hbs : 1 ≤ bs) (ha : a = u * bs) (h1 : a ≤ n) (h2 : n < a + bs) (hs : ∀ t, t < u → Seg T d (t * bs) ((t + 1) * bs)) (hl : Seg T d a n) : Segs T bs n 0 d := by
  intro t ht
  rw [Nat.zero_add] at ht
  rw [Nat.zero_add, Nat.zero_add]
  rcases Nat.lt_or_ge t u with c | c
  · have h3 : (t + 1) * bs ≤ u * bs := Nat.mul_le_mul_right _ c
    rw [Nat.min_eq_left (by omega)]
    exact hs t c
  · have h3 : u * bs ≤ t * bs := Nat.mul_le_mul_right _ c
    have h4 : t = u := by
      rcases Nat.lt_or_ge u t with c2 | c2
      · have : (u + 1) * bs ≤ t * bs := Nat.mul_le_mul_right _ c2
        rw [Nat.add_mul] at this
        omega
      · omega
    subst h4
    rw [Nat.min_eq_right (by rw [Nat.add_mul]; omega), ← ha]
    exact hl

theorem stRound_seg (S : Swo T) (V : View M T v) (n bs : Nat) (s : σ) (hbs : 1 ≤ bs) (h : Segs T bs n 0 (v s)) : Segs T (bs * 2) n 0 (v (stRound M n bs s)) := by
  obtain ⟨u, u1, u2, u3, u4, u5, u6⟩ := stPass_seg S V n bs hbs n 0 s (Nat.zero_le _) (by omega) h
  unfold stRound
  dsimp only
  generalize (stPass M n bs n 0 s).1 = a at *
  generalize (stPass M n bs n 0 s).2 = t at *
  rw [Nat.zero_add] at u1
  simp only [Nat.zero_add] at u4
  rw [Nat.mul_comm bs 2]
  by_cases c : a + bs < n
  · rw [if_pos c]
    have s0 := u5 0 (by omega)
    have s1 := u5 1 (by omega)
    rw [show a + 0 * bs = a by omega, show min (a + (0 + 1) * bs) n = a + bs by omega] at s0
    rw [show a + 1 * bs = a + bs by omega, show min (a + (1 + 1) * bs) n = n by omega] at s1
    obtain ⟨hs, ho⟩ := seg_merge S V a (a + bs) n t (by omega) c s0 s1
    refine segs_of (by omega) u1 u2 u3 (fun q hq => (u4 q hq).congr (fun x q1 q2 => ho x ?_)) hs
    have : (q + 1) * (2 * bs) ≤ u * (2 * bs) := Nat.mul_le_mul_right _ hq
    omega
  · rw [if_neg c]
    refine segs_of (by omega) u1 u2 u3 u4 ?_
    rcases Nat.lt_or_ge a n with c2 | c2
    · have s0 := u5 0 (by omega)
      rw [show a + 0 * bs = a by omega, show min (a + (0 + 1) * bs) n = n by omega] at s0
      exact s0
    · exact Seg.none c2

theorem stLoop_seg (S : Swo T) (V : View M T v) (n : Nat) : ∀ (k bs : Nat) (s : σ), 1 ≤ bs → n - bs ≤ k → Segs T bs n 0 (v s) → Seg T (v (stLoop M n k bs s)) 0 n
  | 0, bs, s, h1, h2, h => by
    show Seg T (v s) 0 n
    rcases Nat.lt_or_ge 0 n with c | c
    · have := h 0 (by omega)
      rw [show 0 + 0 * bs = 0 by omega, show min (0 + (0 + 1) * bs) n = n by omega] at this
      exact this
    · exact Seg.none c
  | k + 1, bs, s, h1, h2, h => by
    by_cases c : bs < n
    · rw [show stLoop M n (k + 1) bs s = stLoop M n k (bs * 2) (stRound M n bs s) by
        show (if bs < n then _ else _) = _; rw [if_pos c]]
      exact stLoop_seg S V n k (bs * 2) _ (by omega) (by omega) (stRound_seg S V n bs s h1 h)
    · rw [show stLoop M n (k + 1) bs s = s by
        show (if bs < n then _ else _) = _; rw [if_neg c]]
      rcases Nat.lt_or_ge 0 n with c2 | c2
      · have := h 0 (by omega)
        rw [show 0 + 0 * bs = 0 by omega, show min (0 + (0 + 1) * bs) n = n by omega] at this
        exact this
      · exact Seg.none c2

/-- THE SORT: from the numbers in their places to the numbers in order. -/
theorem stable_seg (S : Swo T) (V : View M T v) (n : Nat) (s : σ) (h : ∀ x, x < n → v s x = x) : Seg T (v (stable M n s)) 0 n := by
  obtain ⟨u, u1, u2, u3, u4, u5⟩ := stBlocks_seg S V n n 0 s (Nat.zero_le _) (by omega) (fun x _ q => h x q)
  unfold stable
  dsimp only
  generalize (stBlocks M n n 0 s).1 = a at *
  generalize (stBlocks M n n 0 s).2 = t at *
  rw [Nat.zero_add] at u1
  simp only [Nat.zero_add] at u4
  obtain ⟨hs, ho⟩ := insSort_seg S V a n t u2 (fun x q1 q2 => by rw [u5 x (.inr q1)]; exact h x q2)
  refine stLoop_seg S V n n 20 _ (by omega) (by omega) (segs_of (by omega) u1 u2 u3 (fun q hq => (u4 q hq).congr (fun x q1 q2 => ho x (by omega))) hs)
end
end Go.Proofs.Ytkklbnheiganlaa
