/-
  How many questions and swaps pdqsort makes under any relation: a bound that each round pays for. No program of Go is named here.
-/
import Derived.Test.YtkklbnheiganlaaPqB3
namespace Go.Proofs.Ytkklbnheiganlaa
set_option linter.unusedVariables false

/-- Eight times what a range of m places costs, with F places ahead of it down to its floor. -/
def Phi (F m : Nat) : Nat := 80 * ((F + m) * m) + 7 * (m * m) + 8000 * m
theorem Phi_one (F y : Nat) : Phi F (y + 1) = Phi (F + 1) y + 80 * (F + 1 + y) + 14 * y + 8007 := by
  unfold Phi
  simp only [Nat.mul_add, Nat.add_mul, Nat.mul_one, Nat.one_mul]
  omega
theorem Phi_more (F t y : Nat) (ht : 2 ≤ t) : Phi (F + t) y + 160 * (F + t + y) + 16000 ≤ Phi F (t + y) := by
  have h1 : (F + t + y) * 2 ≤ (F + t + y) * t := Nat.mul_le_mul_left _ ht
  unfold Phi
  simp only [Nat.mul_add, Nat.add_mul, Nat.mul_comm y t] at h1 ⊢
  omega
theorem Phi_part (F u w : Nat) : Phi F u + Phi 0 w + 80 * F + 174 * (u + w + 1) + 7913 ≤ Phi F (u + w + 1) := by
  unfold Phi
  simp only [Nat.mul_add, Nat.add_mul, Nat.mul_one, Nat.one_mul, Nat.zero_add, Nat.mul_comm w u]
  omega
theorem Phi_lin (F m : Nat) : 8000 * m ≤ Phi F m := by unfold Phi; omega
theorem Phi_sq (F m : Nat) (hm : 13 ≤ m) : 1040 * (F + m) + 8000 * m ≤ Phi F m := by
  have h1 : (F + m) * 13 ≤ (F + m) * m := Nat.mul_le_mul_left _ hm
  unfold Phi
  omega
theorem Phi_heap (F m : Nat) : 8 * (((m - 1) / 2 + 1) * (3 * m) + m * (3 * m + 1)) + 2 * m ≤ Phi F m := by
  have h1 : ((m - 1) / 2 + 1) * (3 * m) ≤ (m + 1) * (3 * m) := Nat.mul_le_mul_right _ (by omega)
  have e1 : (m + 1) * (3 * m) = 3 * (m * m) + 3 * m := by rw [Nat.add_mul, Nat.one_mul, Nat.mul_left_comm]
  have e2 : m * (3 * m + 1) = 3 * (m * m) + m := by rw [Nat.mul_add, Nat.mul_one, Nat.mul_left_comm]
  have e3 : (F + m) * m = F * m + m * m := Nat.add_mul _ _ _
  unfold Phi
  rw [e2, e3]
  omega
theorem Phi_ins (F m : Nat) : 8 * ((m - 1) * (2 * m)) ≤ Phi F m := by
  have h1 : (m - 1) * (2 * m) ≤ m * (2 * m) := Nat.mul_le_mul_right _ (by omega)
  have e1 : m * (2 * m) = 2 * (m * m) := Nat.mul_left_comm _ _ _
  have e3 : (F + m) * m = F * m + m * m := Nat.add_mul _ _ _
  unfold Phi
  omega
/-- At the first quarter of a range of 50 or more, the one does not come before the one ahead of it: the range is not taken for a decreasing one. -/
def Chi (T : Nat → Nat → Bool) (a b : Nat) (d : Nat → Nat) : Prop := 50 ≤ b - a ∧ T (d (a + (b - a) / 4 * 1)) (d (a + (b - a) / 4 * 1 - 1)) = false

section
variable {σ : Type} {M : Mach σ} {oth : Nat → Nat → Nat} {T : Nat → Nat → Bool} {v : σ → Nat → Nat}

theorem wy_rdA {lo hi : Nat} (ho : OthOk oth) (a b : Nat) (wb : Bool) (s : σ) (hl : lo ≤ a) (hb : b ≤ hi) : Wy M lo hi 3 s (rdA M oth a b wb s) := by
  unfold rdA
  split
  · exact .nil _ _
  · exact wy_breakP ho a b s hl hb
theorem wy_rdR {lo hi : Nat} (a b : Nat) (c : Nat × Nat × σ) (hab : a < b) (hl : lo ≤ a) (hb : b ≤ hi) : Wy M lo hi (if c.2.1 = 2 then (b - a) / 2 else 0) c.2.2 (rdR M a b c) := by
  unfold rdR
  split
  · exact wy_revR a b _ hab hl hb
  · exact .nil _ _

section
variable (V : View M T v)
include V
omit V in
theorem Bar.lower {c b b' : Nat} {d : Nat → Nat} (h : Bar T c b d) (hb : b' ≤ b) : Bar T c b' d := by
  rcases h with h | h
  · exact .inl h
  · exact .inr fun x h1 h2 => h x h1 (by omega)
omit V in
theorem Bar.same {c b : Nat} {d d' : Nat → Nat} (h : Bar T c b d) (e : ∀ x, x < b → d' x = d x) (hcb : c ≤ b) : Bar T c b d' := by
  rcases h with h | h
  · exact .inl h
  · by_cases h0 : c = 0
    · exact .inl h0
    · refine .inr fun x h1 h2 => ?_
      rw [e x h2, e (c - 1) (by omega)]
      exact h x h1 h2

/-- partialInsertionSort, crudely. -/
theorem rdP_crude {a b c : Nat} {wb wp : Bool} {h : Nat} {s : σ} (hca : c ≤ a) (hab : a < b) (hB : Bar T c b (v s)) :
    ∃ K, Wy M c b K s (rdP M a b wb wp h s).2 ∧ K ≤ 10 * (b - c) + (b - a) + 15 ∧ (wb = false ∨ b - a < 50 → K ≤ b - a) := by
  unfold rdP
  split
  · rename_i hc
    by_cases hm : 50 ≤ b - a
    · obtain ⟨i', t', K, e1, e2, e3, e4, e5, _⟩ := v_partI V hca hm 5 (a + 1) a s (by omega) (by omega) (Nat.le_refl _) hB (fun x h1 h2 => absurd h2 (by omega))
      exact ⟨K, e4, by omega, fun g => by rcases g with g | g; · rw [hc.1] at g; exact absurd g (by decide)
                                          · omega⟩
    · exact ⟨_, v_partI_short (c := c) (by omega) 5 (a + 1) s (by omega), by omega, fun _ => by omega⟩
  · exact ⟨0, .nil _ _, by omega, fun _ => by omega⟩

/-- The head of a round up to the question whether many are equal, crudely. -/
theorem head_crude (ho : OthOk oth) {a b c : Nat} {wb wp : Bool} {s : σ} (hca : c ≤ a) (hab : a < b) (hB : Bar T c b (v s)) :
    ∃ K, Wy M c b K s (rdP M a b wb wp (rdH (chooseP M a b (rdA M oth a b wb s))) (rdR M a b (chooseP M a b (rdA M oth a b wb s)))).2 ∧ K ≤ 10 * (b - c) + 2 * (b - a) + 30 ∧ (wb = false ∨ b - a < 50 → K ≤ 2 * (b - a) + 30) := by
  have w1 := wy_rdA (M := M) (lo := c) (hi := b) ho a b wb s hca (Nat.le_refl _)
  generalize rdA M oth a b wb s = s1 at *
  have w2 := wy_chooseP (M := M) (lo := c) (hi := b) a b s1
  generalize chooseP M a b s1 = ch at *
  have w3 := wy_rdR (M := M) (lo := c) (hi := b) a b ch hab hca (Nat.le_refl _)
  generalize rdR M a b ch = s2 at *
  have w4 := (w1.trans w2).trans w3
  obtain ⟨K, e1, e2, e3⟩ := rdP_crude V (wb := wb) (wp := wp) (h := rdH ch) hca hab (hB.wy V w4)
  have h0 : (if ch.2.1 = 2 then (b - a) / 2 else 0) ≤ (b - a) / 2 := by split <;> omega
  refine ⟨_, w4.trans e1, by omega, fun g => ?_⟩
  have := e3 g
  omega

/-- The head of a round in a range of 50 or more behind a balanced one, sharply: how far it has looked (i), behind what all stands in order (t). -/
theorem head_sharp {a b c : Nat} {wp : Bool} {s : σ} (hca : c ≤ a) (hm : 50 ≤ b - a) (hB : Bar T c b (v s)) :
    ∃ K i t, Wy M c b K s (rdP M a b true wp (rdH (chooseP M a b s)) (rdR M a b (chooseP M a b s))).2 ∧ a + 1 ≤ i ∧ i ≤ b ∧ a + 5 ≤ t ∧
      ((rdP M a b true wp (rdH (chooseP M a b s)) (rdR M a b (chooseP M a b s))).1 = false → Good T t i (v (rdP M a b true wp (rdH (chooseP M a b s)) (rdR M a b (chooseP M a b s))).2)) ∧
      K + 2 * (t - (a + 5)) ≤ (if (chooseP M a b s).2.1 = 2 then (b - a) / 2 else 0) + (i - (a + 1)) + 10 * (b - c) + 27 ∧
      (i = a + 1 ∨ (a + (b - a) / 2 ≤ rdV a b (chooseP M a b s) + 2 ∧ rdV a b (chooseP M a b s) ≤ a + (b - a) / 2 + 2)) ∧
      ((chooseP M a b s).2.1 = 2 → ¬ Chi T a b (v s)) := by
  have hab : a < b := by omega
  have w2 := wy_chooseP (M := M) (lo := c) (hi := b) a b s
  have hf := chooseP_facts (M := M) a b s hm
  have hchi : (chooseP M a b s).2.1 = 2 → ¬ Chi T a b (v s) := fun h2 hc => by
    have := (hf.1 h2).2
    rw [V.less, hc.2] at this
    exact absurd this (by decide)
  generalize chooseP M a b s = ch at *
  have w3 := wy_rdR (M := M) (lo := c) (hi := b) a b ch hab hca (Nat.le_refl _)
  have hV : rdH ch = 1 → a + (b - a) / 2 ≤ rdV a b ch + 2 ∧ rdV a b ch ≤ a + (b - a) / 2 + 2 := fun h1 => by
    unfold rdV
    by_cases h2 : ch.2.1 = 2
    · rw [if_pos h2, (hf.1 h2).1]
      omega
    · unfold rdH at h1
      rw [if_neg h2] at h1
      rw [if_neg h2, hf.2 h1]
      omega
  generalize rdR M a b ch = s2 at *
  have w4 := w2.trans w3
  have hB2 := hB.wy V w4
  unfold rdP
  by_cases hc : true = true ∧ wp = true ∧ rdH ch = 1
  · rw [if_pos hc]
    obtain ⟨i', t', K, e1, e2, e3, e4, e5, e6⟩ := v_partI V hca hm 5 (a + 1) a s2 (by omega) (by omega) (Nat.le_refl _) hB2 (fun x h1 h2 => absurd h2 (by omega))
    exact ⟨_, i', t', w4.trans e4, e1, e2, e3, e6, by omega, .inr (hV hc.2.2), hchi⟩
  · rw [if_neg hc]
    exact ⟨_, a + 1, a + 5, w4, Nat.le_refl _, by omega, Nat.le_refl _, fun _ x h1 h2 => absurd h2 (by omega), by omega, .inl rfl, hchi⟩
end
end
end Go.Proofs.Ytkklbnheiganlaa
