/-
  What partialInsertionSort leaves, and at what cost, under any relation: how far it has looked, and what stands in order there. No program of Go is named here.
-/
import Derived.Test.YtkklbnheiganlaaPqB1
namespace Go.Proofs.Ytkklbnheiganlaa
set_option linter.unusedVariables false

/-- Nothing in [c, b) comes before what stands ahead of it at c - 1. -/
def Bar (T : Nat → Nat → Bool) (c b : Nat) (d : Nat → Nat) : Prop := c = 0 ∨ ∀ x, c ≤ x → x < b → T (d x) (d (c - 1)) = false
/-- Behind t, up to i, none comes before the one ahead of it. -/
def Good (T : Nat → Nat → Bool) (t i : Nat) (d : Nat → Nat) : Prop := ∀ x, t < x → x < i → T (d x) (d (x - 1)) = false

section
variable {σ : Type} {M : Mach σ} {T : Nat → Nat → Bool} {v : σ → Nat → Nat} (V : View M T v)
include V

theorem Bar.wy {c b k : Nat} {s t : σ} (h : Bar T c b (v s)) (w : Wy M c b k s t) : Bar T c b (v t) := by
  rcases h with h | h
  · exact .inl h
  · by_cases h0 : c = 0
    · exact .inl h0
    · refine .inr ?_
      rw [w.out V (x := c - 1) (by omega)]
      exact w.all V (P := fun u => T u (v s (c - 1)) = false) h

theorem v_scanU (x y : Nat → Nat) (up : Bool) (h : Nat) : ∀ (f i : Nat) (s : σ), v (scanU M x y up h f i s).2 = v s ∧ (∀ p, i ≤ p → p < (scanU M x y up h f i s).1 → T (v s (x p)) (v s (y p)) = up) ∧
    (h - i ≤ f → (scanU M x y up h f i s).1 < h → ¬ T (v s (x (scanU M x y up h f i s).1)) (v s (y (scanU M x y up h f i s).1)) = up)
  | 0, i, s => ⟨rfl, fun p h1 h2 => absurd h2 (by show ¬ p < i; omega), fun h1 h2 => absurd h2 (by show ¬ i < h; omega)⟩
  | f + 1, i, s => by
    unfold scanU
    split
    · rename_i hlt
      split
      · rename_i hv
        rw [V.less] at hv
        obtain ⟨e1, e2, e3⟩ := v_scanU x y up h f (i + 1) (M.tick s (x i) (y i))
        rw [V.tick] at e1 e2 e3
        refine ⟨e1, fun p h1 h2 => ?_, fun h1 h2 => e3 (by omega) h2⟩
        by_cases hp : p = i
        · subst hp; exact hv
        · exact e2 p (by omega) h2
      · rename_i hv
        rw [V.less] at hv
        exact ⟨V.tick _ _ _, fun p h1 h2 => absurd h2 (by show ¬ p < i; omega), fun _ _ => hv⟩
    · rename_i hlt
      exact ⟨rfl, fun p h1 h2 => absurd h2 (by show ¬ p < i; omega), fun _ h2 => absurd h2 hlt⟩

theorem v_scanD (x y : Nat → Nat) (up : Bool) (l : Nat) : ∀ (j : Nat) (s : σ), v (scanD M x y up l j s).2 = v s ∧ (∀ p, (scanD M x y up l j s).1 < p → p ≤ j → T (v s (x p)) (v s (y p)) = up)
  | 0, s => ⟨rfl, fun p h1 h2 => absurd h1 (by show ¬ 0 < p; omega)⟩
  | j + 1, s => by
    unfold scanD
    split
    · rename_i hle
      split
      · rename_i hv
        rw [V.less] at hv
        obtain ⟨e1, e2⟩ := v_scanD x y up l j (M.tick s (x (j + 1)) (y (j + 1)))
        rw [V.tick] at e1 e2
        refine ⟨e1, fun p h1 h2 => ?_⟩
        by_cases hp : p = j + 1
        · subst hp; exact hv
        · exact e2 p h1 (by omega)
      · exact ⟨V.tick _ _ _, fun p h1 h2 => absurd h1 (by show ¬ j + 1 < p; omega)⟩
    · exact ⟨rfl, fun p h1 h2 => absurd h1 (by show ¬ j + 1 < p; omega)⟩

/-- The shift of what stands at j to the left: it stops at some p. -/
theorem v_insInner : ∀ (j : Nat) (s : σ), ∃ p, p ≤ j ∧ Wy M p (j + 1) (2 * (j - p) + 1) s (insInner M 0 j s) ∧ (∀ x, v (insInner M 0 j s) x = if x = p then v s j else if p < x ∧ x ≤ j then v s (x - 1) else v s x) ∧
    (∀ x, p ≤ x → x < j → T (v s j) (v s x) = true) ∧ (p = 0 ∨ T (v s j) (v s (p - 1)) = false)
  | 0, s => ⟨0, Nat.le_refl _, .nil _ _, fun x => by
      show v s x = _
      split
      · rename_i h; rw [h]
      · rw [if_neg (by omega)], fun x h1 h2 => absurd h2 (by omega), .inl rfl⟩
  | j + 1, s => by
    unfold insInner
    rw [if_pos (by omega)]
    by_cases hv : M.less s (j + 1) j = true
    · rw [if_pos hv]
      obtain ⟨p, hp, w, hx, ha, hs⟩ := v_insInner j (M.swap (M.tick s (j + 1) j) (j + 1) j)
      rw [V.less] at hv
      have e : ∀ x, v (M.swap (M.tick s (j + 1) j) (j + 1) j) x = if x = j + 1 then v s j else if x = j then v s (j + 1) else v s x := fun x => by rw [V.swap, V.tick]; rfl
      have ej : v (M.swap (M.tick s (j + 1) j) (j + 1) j) j = v s (j + 1) := by rw [e, if_neg (by omega), if_pos rfl]
      refine ⟨p, by omega, ((Wy.both s (by omega) (by omega) (by omega) (by omega)).trans (w.wide (Nat.le_refl _) (by omega))).mono (by omega), fun x => ?_, fun x h1 h2 => ?_, ?_⟩
      · rw [hx x, ej]
        by_cases h1 : x = p
        · rw [if_pos h1, if_pos h1]
        · rw [if_neg h1, if_neg h1]
          by_cases h2 : p < x ∧ x ≤ j
          · rw [if_pos h2, if_pos (by omega), e, if_neg (by omega), if_neg (by omega)]
          · rw [if_neg h2, e]
            by_cases h3 : x = j + 1
            · rw [if_pos h3, if_pos (by omega), h3]; rfl
            · rw [if_neg h3, if_neg (by omega), if_neg (by omega)]
      · by_cases h3 : x = j
        · subst h3; exact hv
        · have h4 := ha x h1 (by omega)
          rw [ej, e, if_neg (by omega), if_neg h3] at h4
          exact h4
      · rcases hs with h | h
        · exact .inl h
        · by_cases h0 : p = 0
          · exact .inl h0
          · rw [ej, e, if_neg (by omega), if_neg (by omega)] at h
            exact .inr h
    · rw [if_neg hv]
      rw [V.less] at hv
      refine ⟨j + 1, Nat.le_refl _, (Wy.tick1 s _ _).mono (by omega), fun x => ?_, fun x h1 h2 => absurd h2 (by omega), .inr ?_⟩
      · rw [V.tick]
        split
        · rename_i h; rw [h]
        · rw [if_neg (by omega)]
      · rw [Nat.add_sub_cancel]
        exact Bool.eq_false_iff.2 hv

/-- One step of partialInsertionSort behind its scan. -/
theorem v_partIS {a b c i : Nat} {s : σ} (hca : c ≤ a) (hai : a < i) (hib : i < b) (hB : Bar T c b (v s)) :
    ∃ p, c ≤ p ∧ p < i ∧ Wy M c b (2 * (b - p)) s (partIS M a b i s) ∧ (∀ x, x < i → v (partIS M a b i s) x = if x = p then v s i else if p < x then v s (x - 1) else v s x) := by
  unfold partIS
  dsimp only
  have w1 : Wy M c b 1 s (M.swap s i (i - 1)) := Wy.swap1 s (by omega) (by omega) (by omega) (by omega)
  have e1 : ∀ x, v (M.swap s i (i - 1)) x = if x = i then v s (i - 1) else if x = i - 1 then v s i else v s x := fun x => by rw [V.swap]; rfl
  have e2 : v (M.swap s i (i - 1)) (i - 1) = v s i := by rw [e1, if_neg (by omega), if_pos rfl]
  generalize M.swap s i (i - 1) = s1 at *
  have h2 : ∃ p, c ≤ p ∧ p < i ∧ Wy M c b (2 * (i - 1 - p) + 1) s1 (if 2 ≤ i - a then insInner M 0 (i - 1) s1 else s1) ∧ (∀ x, x < i → v (if 2 ≤ i - a then insInner M 0 (i - 1) s1 else s1) x = if x = p then v s i else if p < x then v s (x - 1) else v s x) := by
    split
    · obtain ⟨p, hp, w, hx, ha, hs⟩ := v_insInner V (i - 1) s1
      have hcp : c ≤ p := by
        rcases hB with h | h
        · omega
        · by_cases hlt : c ≤ p
          · exact hlt
          · have h5 := ha (c - 1) (by omega) (by omega)
            rw [e2, e1, if_neg (by omega), if_neg (by omega), h i (by omega) hib] at h5
            exact absurd h5 (by decide)
      refine ⟨p, hcp, by omega, w.wide hcp (by omega), fun x hxi => ?_⟩
      rw [hx x, e2]
      by_cases h1 : x = p
      · rw [if_pos h1, if_pos h1]
      · rw [if_neg h1, if_neg h1]
        by_cases h3 : p < x
        · rw [if_pos (by omega), if_pos h3, e1, if_neg (by omega), if_neg (by omega)]
        · rw [if_neg (by omega), if_neg h3, e1, if_neg (by omega), if_neg (by omega)]
    · refine ⟨i - 1, by omega, by omega, .nil _ _, fun x hxi => ?_⟩
      rw [e1, if_neg (by omega)]
      by_cases h1 : x = i - 1
      · rw [if_pos h1, if_pos h1]
      · rw [if_neg h1, if_neg h1, if_neg (by omega)]
  obtain ⟨p, hcp, hpi, w2, hx2⟩ := h2
  generalize (if 2 ≤ i - a then insInner M 0 (i - 1) s1 else s1) = s2 at *
  have w3 : Wy M i b (2 * (b - (i + 1))) s2 (if 2 ≤ b - i then shiftU M b (b - (i + 1)) (i + 1) s2 else s2) := by
    split
    · exact wy_shiftU b (Nat.le_refl _) _ _ _ (Nat.le_refl _)
    · exact .nil _ _
  refine ⟨p, hcp, hpi, ((w1.trans w2).trans (w3.wide (by omega) (Nat.le_refl _))).mono (by omega), fun x hxi => ?_⟩
  rw [w3.out V (.inl hxi)]
  exact hx2 x hxi

/-- So many steps of partialInsertionSort, from i on: it has looked as far as i'; behind t' all stands in order; the count goes down as t' goes up. -/
theorem v_partI {a b c : Nat} (hca : c ≤ a) (hm : 50 ≤ b - a) : ∀ (k i t : Nat) (s : σ), a < i → i ≤ b → a ≤ t → Bar T c b (v s) → Good T t i (v s) →
    ∃ i' t' K, i ≤ i' ∧ i' ≤ b ∧ t + k ≤ t' ∧ Wy M c b K s (partI M a b k i s).2 ∧ K + 2 * (t' - (t + k)) ≤ (i' - i) + k * (2 * (b - c) + 3) ∧ ((partI M a b k i s).1 = false → Good T t' i' (v (partI M a b k i s).2))
  | 0, i, t, s, h1, h2, h3, hB, hG => ⟨i, t, 0, Nat.le_refl _, h2, Nat.le_refl _, .nil _ _, by omega, fun _ => hG⟩
  | k + 1, i, t, s, h1, h2, h3, hB, hG => by
    have h4 : (k + 1) * (2 * (b - c) + 3) = k * (2 * (b - c) + 3) + (2 * (b - c) + 3) := Nat.succ_mul _ _
    rw [partI_eq]
    have w1 := wy_scanU (M := M) (lo := c) (hi := b) (fun i => i) (fun i => i - 1) false b (b - i) i s
    obtain ⟨ev, eg, _⟩ := v_scanU V (fun i => i) (fun i => i - 1) false b (b - i) i s
    generalize scanU M (fun i => i) (fun i => i - 1) false b (b - i) i s = r at *
    obtain ⟨i1, s1⟩ := r
    dsimp only at *
    split
    · rename_i hb
      exact ⟨b, t + (k + 1), i1 - i + 1, h2, Nat.le_refl _, Nat.le_refl _, w1.1, by omega, fun e => absurd e (by simp)⟩
    · rename_i hb
      rw [if_neg (by omega)]
      have hB1 : Bar T c b (v s1) := by rw [ev]; exact hB
      obtain ⟨p, hcp, hpi, w2, hx⟩ := v_partIS V (a := a) (i := i1) hca (by omega) (by omega) hB1
      have hB2 := hB1.wy V w2
      have hG1 : Good T t i1 (v s1) := by
        rw [ev]
        intro x hx1 hx2
        by_cases hxi : x < i
        · exact hG x hx1 hxi
        · exact eg x (by omega) hx2
      have hG2 : ∀ t1, t + 1 ≤ t1 → p + 1 ≤ t1 → Good T t1 i1 (v (partIS M a b i1 s1)) := fun t1 g1 g2 x hx1 hx2 => by
        rw [hx x hx2, hx (x - 1) (by omega), if_neg (by omega), if_pos (by omega), if_neg (by omega), if_pos (by omega)]
        exact hG1 (x - 1) (by omega) (by omega)
      generalize partIS M a b i1 s1 = s2 at *
      by_cases hpt : p ≤ t
      · obtain ⟨i', t', K, e1, e2, e3, e4, e5, e6⟩ := v_partI hca hm k i1 (t + 1) s2 (by omega) (by omega) (by omega) hB2 (hG2 _ (Nat.le_refl _) (by omega))
        exact ⟨i', t', _, by omega, e2, by omega, (w1.1.trans w2).trans e4, by omega, e6⟩
      · obtain ⟨i', t', K, e1, e2, e3, e4, e5, e6⟩ := v_partI hca hm k i1 (p + 1) s2 (by omega) (by omega) (by omega) hB2 (hG2 _ (by omega) (Nat.le_refl _))
        exact ⟨i', t', _, by omega, e2, by omega, (w1.1.trans w2).trans e4, by omega, e6⟩
omit V in
/-- A short range: one scan at most. -/
theorem v_partI_short {a b c : Nat} (hm : b - a < 50) (k i : Nat) (s : σ) (hi : i ≤ b) : Wy M c b (b - i + 1) s (partI M a b k i s).2 := by
  cases k with
  | zero => exact .nil _ _
  | succ k =>
    rw [partI_eq]
    have w1 := wy_scanU (M := M) (lo := c) (hi := b) (fun i => i) (fun i => i - 1) false b (b - i) i s
    generalize scanU M (fun i => i) (fun i => i - 1) false b (b - i) i s = r at *
    split
    · exact w1.1.mono (by omega)
    · exact w1.1.mono (by omega)
end
end Go.Proofs.Ytkklbnheiganlaa
