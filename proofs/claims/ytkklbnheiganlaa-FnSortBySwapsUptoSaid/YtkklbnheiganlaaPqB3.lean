/-
  What partition, partitionEqual and choosePivot tell of the range under any relation. No program of Go is named here.
-/
import Derived.Test.YtkklbnheiganlaaPqB2
namespace Go.Proofs.Ytkklbnheiganlaa
set_option linter.unusedVariables false

section
variable {σ : Type} {M : Mach σ} {T : Nat → Nat → Bool} {v : σ → Nat → Nat} (V : View M T v)
include V

theorem v_parU (a : Nat) (e : Bool) (i j : Nat) (s : σ) : v (parU M a e i j s).2 = v s ∧ (e = false → (parU M a e i j s).1 ≤ j → T (v s (parU M a e i j s).1) (v s a) = false) := by
  unfold parU
  cases e
  · obtain ⟨h1, _, h3⟩ := v_scanU V (fun i => i) (fun _ => a) true (j + 1) (j + 1 - i) i s
    exact ⟨h1, fun _ h => Bool.eq_false_iff.2 (h3 (Nat.le_refl _) (Nat.lt_succ_of_le h))⟩
  · exact ⟨(v_scanU V (fun _ => a) (fun i => i) false (j + 1) (j + 1 - i) i s).1, fun h => absurd h (by decide)⟩
theorem v_parD (a : Nat) (e : Bool) (i j : Nat) (s : σ) : v (parD M a e i j s).2 = v s ∧ (∀ p, (parD M a e i j s).1 < p → p ≤ j → (if e then T (v s a) (v s p) = true else T (v s p) (v s a) = false)) := by
  unfold parD
  cases e
  · exact v_scanD V (fun j => j) (fun _ => a) false i j s
  · exact v_scanD V (fun _ => a) (fun j => j) true i j s

/-- partitionEqual that takes the pivot alone. -/
theorem partEq_one {a b c pv : Nat} {s : σ} (hca : c ≤ a) (hap : a ≤ pv) (hpb : pv < b) (hab : a + 1 < b) (h : (partEq M a b pv s).1 = a + 1) :
    Wy M c b (b - a + 2) s (partEq M a b pv s).2 ∧ v (partEq M a b pv s).2 = swapF (v s) a pv ∧ ∀ x, a < x → x < b → T (v s pv) (swapF (v s) a pv x) = true := by
  unfold partEq at h ⊢
  dsimp only at h ⊢
  obtain ⟨f, hf⟩ : ∃ f, b - a = f + 1 := ⟨b - a - 1, by omega⟩
  rw [hf, partL_eq] at h ⊢
  have w0 : Wy M c b 1 s (M.swap s a pv) := Wy.swap1 s (by omega) (by omega) (by omega) (by omega)
  have e0 : v (M.swap s a pv) = swapF (v s) a pv := V.swap _ _ _
  generalize M.swap s a pv = s0 at *
  have w1 := wy_parU (M := M) (lo := c) (hi := b) a true (a + 1) (b - 1) s0
  have u1 := v_parU V a true (a + 1) (b - 1) s0
  generalize parU M a true (a + 1) (b - 1) s0 = r1 at *
  have w2 := wy_parD (M := M) (lo := c) (hi := b) a true r1.1 (b - 1) r1.2
  have u2 := v_parD V a true r1.1 (b - 1) r1.2
  generalize parD M a true r1.1 (b - 1) r1.2 = r2 at *
  by_cases hlt : r2.1 < r1.1
  · rw [if_pos hlt] at h ⊢
    dsimp only at h ⊢
    refine ⟨((w0.trans w1.1).trans w2.1).mono (by omega), by rw [u2.1, u1.1, e0], fun x h1 h2 => ?_⟩
    have h3 := u2.2 x (by omega) (by omega)
    rw [if_pos rfl, u1.1, e0] at h3
    have h4 : swapF (v s) a pv a = v s pv := if_pos rfl
    rw [h4] at h3
    exact h3
  · rw [if_neg hlt] at h
    have h5 := (wy_partL (M := M) (lo := c) (hi := b) a b true hca (Nat.le_refl _) f (r1.1 + 1) (r2.1 - 1) (M.swap r2.2 r1.1 r2.1) (by omega) (by omega) (by omega) (by omega) (by omega)).2.1
    omega

theorem partL_bar {a b : Nat} : ∀ (f i j : Nat) (s : σ), a + 1 ≤ i → a ≤ j → j < b → (∀ x, j < x → x < b → T (v s x) (v s a) = false) →
    v (partL M a false f i j s).2.2 a = v s a ∧ ∀ x, (partL M a false f i j s).2.1 < x → x < b → T (v (partL M a false f i j s).2.2 x) (v s a) = false
  | 0, i, j, s, h1, h2, h3, h4 => ⟨rfl, h4⟩
  | f + 1, i, j, s, h1, h2, h3, h4 => by
    rw [partL_eq]
    have w1 := wy_parU (M := M) (lo := 0) (hi := b) a false i j s
    have u1 := v_parU V a false i j s
    generalize parU M a false i j s = r1 at *
    have w2 := wy_parD (M := M) (lo := 0) (hi := b) a false r1.1 j r1.2
    have u2 := v_parD V a false r1.1 j r1.2
    generalize parD M a false r1.1 j r1.2 = r2 at *
    have hv2 : v r2.2 = v s := u2.1.trans u1.1
    have hup : ∀ x, r2.1 < x → x < b → T (v s x) (v s a) = false := fun x g1 g2 => by
      by_cases hx : j < x
      · exact h4 x hx g2
      · have := u2.2 x g1 (by omega)
        rw [u1.1] at this
        exact this
    by_cases hlt : r2.1 < r1.1
    · rw [if_pos hlt]
      dsimp only
      rw [hv2]
      exact ⟨rfl, hup⟩
    · rw [if_neg hlt]
      have e : ∀ x, v (M.swap r2.2 r1.1 r2.1) x = if x = r1.1 then v s r2.1 else if x = r2.1 then v s r1.1 else v s x := fun x => by rw [V.swap, hv2]; rfl
      have ea : v (M.swap r2.2 r1.1 r2.1) a = v s a := by rw [e, if_neg (by omega), if_neg (by omega)]
      have hs := u1.2 rfl (by omega)
      have ih := partL_bar (a := a) (b := b) f (r1.1 + 1) (r2.1 - 1) (M.swap r2.2 r1.1 r2.1) (by omega) (by omega) (by omega) (fun x g1 g2 => by
        rw [ea, e]
        by_cases hx2 : x = r2.1
        · by_cases hx1 : x = r1.1
          · rw [if_pos hx1, ← hx2, hx1]; exact hs
          · rw [if_neg hx1, if_pos hx2]; exact hs
        · rw [if_neg (by omega), if_neg hx2]
          exact hup x (by omega) g2)
      rw [ea] at ih
      exact ih

/-- partition: what stands behind the pivot does not come before it. -/
theorem partit_bar {a b pv : Nat} {s : σ} (hap : a ≤ pv) (hpb : pv < b) : ∀ x, (partit M a b pv s).1 < x → x < b → T (v (partit M a b pv s).2.2 x) (v (partit M a b pv s).2.2 (partit M a b pv s).1) = false := by
  rw [partit_eq _ _ _ (by omega)]
  have fin : ∀ (t : σ) (j : Nat), a ≤ j → (∀ x, j < x → x < b → T (v t x) (v t a) = false) → ∀ x, j < x → x < b → T (v (M.swap t j a) x) (v (M.swap t j a) j) = false := fun t j hj h x g1 g2 => by
    rw [V.swap]
    unfold swapF
    rw [if_neg (by omega), if_neg (by omega), if_pos rfl]
    exact h x g1 g2
  split
  · have w1 := wy_parU (M := M) (lo := 0) (hi := b) a false (a + 1) (b - 1) (M.swap s a pv)
    have u1 := v_parU V a false (a + 1) (b - 1) (M.swap s a pv)
    generalize parU M a false (a + 1) (b - 1) (M.swap s a pv) = r1 at *
    have w2 := wy_parD (M := M) (lo := 0) (hi := b) a false r1.1 (b - 1) r1.2
    have u2 := v_parD V a false r1.1 (b - 1) r1.2
    generalize parD M a false r1.1 (b - 1) r1.2 = r2 at *
    dsimp only
    refine fin _ _ (by omega) (fun x g1 g2 => ?_)
    have := u2.2 x g1 (by omega)
    rw [u2.1]
    exact this
  · have w := wy_partL (M := M) (lo := 0) (hi := b) a b false (Nat.zero_le _) (Nat.le_refl _) (b - a + 1) (a + 1) (b - 1) (M.swap s a pv) (Nat.le_refl _) (by omega) (by omega) (by omega) (by omega)
    have h := partL_bar V (a := a) (b := b) (b - a + 1) (a + 1) (b - 1) (M.swap s a pv) (Nat.le_refl _) (by omega) (by omega) (fun x g1 g2 => absurd g2 (by omega))
    generalize partL M a false (b - a + 1) (a + 1) (b - 1) (M.swap s a pv) = r at *
    dsimp only
    refine fin _ _ w.2.2.2.1 (fun x g1 g2 => ?_)
    rw [h.1]
    exact h.2 x g1 g2
end

section
variable {σ : Type} {M : Mach σ} {lo hi : Nat}
theorem ord2_cases (M : Mach σ) (a b sw : Nat) (s : σ) : (ord2 M a b sw s = (b, a, sw + 1, M.tick s b a) ∧ M.less s b a = true) ∨ (ord2 M a b sw s = (a, b, sw, M.tick s b a) ∧ M.less s b a = false) := by
  unfold ord2
  by_cases h : M.less s b a = true
  · rw [if_pos h]; exact .inl ⟨rfl, h⟩
  · rw [if_neg h]; exact .inr ⟨rfl, Bool.eq_false_iff.2 h⟩
theorem med_facts (a b c sw : Nat) (s : σ) : Wy M lo hi 3 s (med M a b c sw s).2.2 ∧ sw ≤ (med M a b c sw s).2.1 ∧ (med M a b c sw s).2.1 ≤ sw + 3 ∧ ((med M a b c sw s).2.1 = sw + 3 → (med M a b c sw s).1 = b ∧ M.less s b a = true) ∧ ((med M a b c sw s).2.1 = sw → (med M a b c sw s).1 = b) := by
  unfold med
  dsimp only
  have w1 := fun t i j => Wy.tick1 (M := M) (lo := lo) (hi := hi) t i j
  have w3 := fun t i j i' j' i'' j'' => ((w1 t i j).trans (w1 _ i' j')).trans (w1 _ i'' j'')
  rcases ord2_cases M a b sw s with ⟨e1, h1⟩ | ⟨e1, h1⟩ <;> rw [e1] <;> dsimp only
  · rcases ord2_cases M a c (sw + 1) (M.tick s b a) with ⟨e2, h2⟩ | ⟨e2, h2⟩ <;> rw [e2] <;> dsimp only
    · rcases ord2_cases M b c (sw + 1 + 1) (M.tick (M.tick s b a) c a) with ⟨e3, h3⟩ | ⟨e3, h3⟩ <;> rw [e3] <;> dsimp only
      · exact ⟨w3 _ _ _ _ _ _ _, by omega, by omega, fun _ => ⟨rfl, h1⟩, fun h => absurd h (by omega)⟩
      · exact ⟨w3 _ _ _ _ _ _ _, by omega, by omega, fun h => absurd h (by omega), fun h => absurd h (by omega)⟩
    · rcases ord2_cases M b a (sw + 1) (M.tick (M.tick s b a) c a) with ⟨e3, h3⟩ | ⟨e3, h3⟩ <;> rw [e3] <;> dsimp only
      · exact ⟨w3 _ _ _ _ _ _ _, by omega, by omega, fun h => absurd h (by omega), fun h => absurd h (by omega)⟩
      · exact ⟨w3 _ _ _ _ _ _ _, by omega, by omega, fun h => absurd h (by omega), fun h => absurd h (by omega)⟩
  · rcases ord2_cases M b c sw (M.tick s b a) with ⟨e2, h2⟩ | ⟨e2, h2⟩ <;> rw [e2] <;> dsimp only
    · rcases ord2_cases M a c (sw + 1) (M.tick (M.tick s b a) c b) with ⟨e3, h3⟩ | ⟨e3, h3⟩ <;> rw [e3] <;> dsimp only
      · exact ⟨w3 _ _ _ _ _ _ _, by omega, by omega, fun h => absurd h (by omega), fun h => absurd h (by omega)⟩
      · exact ⟨w3 _ _ _ _ _ _ _, by omega, by omega, fun h => absurd h (by omega), fun h => absurd h (by omega)⟩
    · rcases ord2_cases M a b sw (M.tick (M.tick s b a) c b) with ⟨e3, h3⟩ | ⟨e3, h3⟩ <;> rw [e3] <;> dsimp only
      · exact ⟨w3 _ _ _ _ _ _ _, by omega, by omega, fun h => absurd h (by omega), fun h => absurd h (by omega)⟩
      · exact ⟨w3 _ _ _ _ _ _ _, by omega, by omega, fun h => absurd h (by omega), fun _ => rfl⟩
theorem wy_chooseP (a b : Nat) (s : σ) : Wy M lo hi 12 s (chooseP M a b s).2.2 := by
  unfold chooseP
  dsimp only
  split
  · split
    · unfold medAdj
      have w1 := med_facts (M := M) (lo := lo) (hi := hi) (a + (b - a) / 4 * 1 - 1) (a + (b - a) / 4 * 1) (a + (b - a) / 4 * 1 + 1) 0 s
      generalize med M (a + (b - a) / 4 * 1 - 1) (a + (b - a) / 4 * 1) (a + (b - a) / 4 * 1 + 1) 0 s = r1 at *
      have w2 := med_facts (M := M) (lo := lo) (hi := hi) (a + (b - a) / 4 * 2 - 1) (a + (b - a) / 4 * 2) (a + (b - a) / 4 * 2 + 1) r1.2.1 r1.2.2
      generalize med M (a + (b - a) / 4 * 2 - 1) (a + (b - a) / 4 * 2) (a + (b - a) / 4 * 2 + 1) r1.2.1 r1.2.2 = r2 at *
      have w3 := med_facts (M := M) (lo := lo) (hi := hi) (a + (b - a) / 4 * 3 - 1) (a + (b - a) / 4 * 3) (a + (b - a) / 4 * 3 + 1) r2.2.1 r2.2.2
      generalize med M (a + (b - a) / 4 * 3 - 1) (a + (b - a) / 4 * 3) (a + (b - a) / 4 * 3 + 1) r2.2.1 r2.2.2 = r3 at *
      have w4 := med_facts (M := M) (lo := lo) (hi := hi) r1.1 r2.1 r3.1 r3.2.1 r3.2.2
      exact ((w1.1.trans w2.1).trans w3.1).trans w4.1
    · exact (med_facts (M := M) (lo := lo) (hi := hi) (a + (b - a) / 4 * 1) (a + (b - a) / 4 * 2) (a + (b - a) / 4 * 3) 0 s).1.mono (by omega)
  · exact .nil _ _
theorem hintOf_two {sw : Nat} (h : hintOf sw = 2) : sw = 12 := by
  unfold hintOf at h
  split at h
  · exact absurd h (by decide)
  · split at h
    · assumption
    · exact absurd h (by decide)
theorem hintOf_one {sw : Nat} (h : hintOf sw = 1) : sw = 0 := by
  unfold hintOf at h
  split at h
  · assumption
  · split at h
    · exact absurd h (by decide)
    · exact absurd h (by decide)
/-- A range of 50 or more: where the pivot lies if the hint says something; and what a decreasing one tells at the first quarter. -/
theorem chooseP_facts (a b : Nat) (s : σ) (hm : 50 ≤ b - a) : ((chooseP M a b s).2.1 = 2 → (chooseP M a b s).1 = a + (b - a) / 4 * 2 ∧ M.less s (a + (b - a) / 4 * 1) (a + (b - a) / 4 * 1 - 1) = true) ∧ ((chooseP M a b s).2.1 = 1 → (chooseP M a b s).1 = a + (b - a) / 4 * 2) := by
  unfold chooseP
  dsimp only
  rw [if_pos (by omega), if_pos hm]
  unfold medAdj
  have w1 := (med_facts (M := M) (lo := 0) (hi := 0) (a + (b - a) / 4 * 1 - 1) (a + (b - a) / 4 * 1) (a + (b - a) / 4 * 1 + 1) 0 s).2
  generalize med M (a + (b - a) / 4 * 1 - 1) (a + (b - a) / 4 * 1) (a + (b - a) / 4 * 1 + 1) 0 s = r1 at *
  have w2 := (med_facts (M := M) (lo := 0) (hi := 0) (a + (b - a) / 4 * 2 - 1) (a + (b - a) / 4 * 2) (a + (b - a) / 4 * 2 + 1) r1.2.1 r1.2.2).2
  generalize med M (a + (b - a) / 4 * 2 - 1) (a + (b - a) / 4 * 2) (a + (b - a) / 4 * 2 + 1) r1.2.1 r1.2.2 = r2 at *
  have w3 := (med_facts (M := M) (lo := 0) (hi := 0) (a + (b - a) / 4 * 3 - 1) (a + (b - a) / 4 * 3) (a + (b - a) / 4 * 3 + 1) r2.2.1 r2.2.2).2
  generalize med M (a + (b - a) / 4 * 3 - 1) (a + (b - a) / 4 * 3) (a + (b - a) / 4 * 3 + 1) r2.2.1 r2.2.2 = r3 at *
  have w4 := (med_facts (M := M) (lo := 0) (hi := 0) r1.1 r2.1 r3.1 r3.2.1 r3.2.2).2
  generalize med M r1.1 r2.1 r3.1 r3.2.1 r3.2.2 = r4 at *
  refine ⟨fun h => ?_, fun h => ?_⟩
  · have h12 := hintOf_two h
    have q4 := (w4.2.2.1 (by omega)).1
    have q2 := (w2.2.2.1 (by omega)).1
    have q1 := (w1.2.2.1 (by omega)).2
    exact ⟨q4.trans q2, q1⟩
  · have h0 := hintOf_one h
    have q4 := w4.2.2.2 (by omega)
    have q2 := w2.2.2.2 (by omega)
    exact q4.trans q2
end
end Go.Proofs.Ytkklbnheiganlaa
