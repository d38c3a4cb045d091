/-
  A round of pdqsort in parts, and that it is a way: so many questions and swaps at most. No program of Go is named here.
-/
import Derived.Test.YtkklbnheiganlaaPqT
namespace Go.Proofs.Ytkklbnheiganlaa
set_option linter.unusedVariables false

/-- From s to t by some questions and swaps. -/
def Rch {σ : Type} (M : Mach σ) (n : Nat) (s t : σ) : Prop := ∃ k, Way M n k s t
section
variable {σ : Type} {M : Mach σ} {n : Nat}
theorem Way.rch {k : Nat} {s t : σ} (h : Way M n k s t) : Rch M n s t := ⟨k, h⟩
theorem Rch.refl (s : σ) : Rch M n s s := ⟨0, .nil _ _⟩
theorem Rch.trans {s t u : σ} (h : Rch M n s t) (h' : Rch M n t u) : Rch M n s u := by
  obtain ⟨k, h⟩ := h; obtain ⟨k', h'⟩ := h'; exact ⟨_, h.trans h'⟩
theorem Rch.ok {ok : σ → Prop} (G : Guard M ok) {s t : σ} (h : Rch M n s t) : ok t → ok s := by
  obtain ⟨k, h⟩ := h; exact h.ok G
theorem Rch.keep {K : σ → Prop} (G : Keeps M n K) {s t : σ} (h : Rch M n s t) : K s → K t := by
  obtain ⟨k, h⟩ := h; exact h.keep G
end

section
variable {σ : Type} (M : Mach σ) (oth : Nat → Nat → Nat)
def rdA (a b : Nat) (wb : Bool) (s : σ) : σ := if wb then s else breakP M oth a b s
def rdR (a b : Nat) (c : Nat × Nat × σ) : σ := if c.2.1 = 2 then revR M a b c.2.2 else c.2.2
def rdV (a b : Nat) (c : Nat × Nat × σ) : Nat := if c.2.1 = 2 then b - 1 - (c.1 - a) else c.1
def rdH (c : Nat × Nat × σ) : Nat := if c.2.1 = 2 then 1 else c.2.1
def rdP (a b : Nat) (wb wp : Bool) (h : Nat) (s : σ) : Bool × σ := if wb = true ∧ wp = true ∧ h = 1 then partI M a b 5 (a + 1) s else (false, s)
/-- behind the question whether many are equal -/
def rdU (f a b lim pv : Nat) (t : σ) : σ :=
  if (partit M a b pv t).1 - a < b - (partit M a b pv t).1 then pdqL M oth f ((partit M a b pv t).1 + 1) b lim (decide ((b - a) / 8 ≤ (partit M a b pv t).1 - a)) (partit M a b pv t).2.1 (pdqL M oth f a (partit M a b pv t).1 lim true true (partit M a b pv t).2.2)
  else pdqL M oth f a (partit M a b pv t).1 lim (decide ((b - a) / 8 ≤ b - (partit M a b pv t).1)) (partit M a b pv t).2.1 (pdqL M oth f ((partit M a b pv t).1 + 1) b lim true true (partit M a b pv t).2.2)
def rdE (f a b lim : Nat) (wb wp : Bool) (pv : Nat) (t : σ) : σ := pdqL M oth f (partEq M a b pv t).1 b lim wb wp (partEq M a b pv t).2
/-- behind partialInsertionSort -/
def rdT (f a b lim : Nat) (wb wp : Bool) (pv : Nat) (s : σ) : σ :=
  if 0 < a ∧ M.less s (a - 1) pv = false then rdE M oth f a b lim wb wp pv (M.tick s (a - 1) pv)
  else rdU M oth f a b lim pv (if 0 < a then M.tick s (a - 1) pv else s)
def limN (lim : Nat) (wb : Bool) : Nat := if wb then lim else lim - 1
end

section
variable {σ : Type} {M : Mach σ} {oth : Nat → Nat → Nat} {n : Nat}
theorem pdqL_small {f a b lim : Nat} {wb wp : Bool} {s : σ} (hf : b - a ≤ f) (h : b - a ≤ 12) : pdqL M oth f a b lim wb wp s = insSort M a b s := by
  cases f with
  | zero =>
    show s = insOuter M a (b - (a + 1)) (a + 1) s
    rw [show b - (a + 1) = 0 by omega]; rfl
  | succ f => show (if b - a ≤ 12 then _ else _) = _; rw [if_pos h]
theorem pdqL_heap {f a b : Nat} {wb wp : Bool} {s : σ} (h : ¬ b - a ≤ 12) : pdqL M oth (f + 1) a b 0 wb wp s = heapS M a b s := by
  show (if b - a ≤ 12 then _ else _) = _; rw [if_neg h, if_pos rfl]
theorem pdqL_round {f a b lim : Nat} {wb wp : Bool} {s : σ} (h : ¬ b - a ≤ 12) (hl : ¬ lim = 0) : pdqL M oth (f + 1) a b lim wb wp s =
    if (rdP M a b wb wp (rdH (chooseP M a b (rdA M oth a b wb s))) (rdR M a b (chooseP M a b (rdA M oth a b wb s)))).1 = true then (rdP M a b wb wp (rdH (chooseP M a b (rdA M oth a b wb s))) (rdR M a b (chooseP M a b (rdA M oth a b wb s)))).2
    else rdT M oth f a b (limN lim wb) wb wp (rdV a b (chooseP M a b (rdA M oth a b wb s))) (rdP M a b wb wp (rdH (chooseP M a b (rdA M oth a b wb s))) (rdR M a b (chooseP M a b (rdA M oth a b wb s)))).2 := by
  show (if b - a ≤ 12 then _ else _) = _
  rw [if_neg h, if_neg hl]
  rfl

theorem way_rdA (ho : OthOk oth) (a b : Nat) (wb : Bool) (s : σ) (hb : b ≤ n) : Way M n 3 s (rdA M oth a b wb s) := by
  unfold rdA
  split
  · exact .nil _ _
  · exact way_breakP ho a b s hb
theorem way_rdR (a b : Nat) (c : Nat × Nat × σ) (hab : a < b) (hb : b ≤ n) : Way M n (b - a) c.2.2 (rdR M a b c) := by
  unfold rdR
  split
  · exact way_revR a b _ hab hb
  · exact .nil _ _
theorem rdV_in (a b : Nat) (c : Nat × Nat × σ) (h1 : a ≤ c.1) (h2 : c.1 < b) : a ≤ rdV a b c ∧ rdV a b c < b := by
  unfold rdV
  split <;> omega
theorem way_rdP (a b : Nat) (wb wp : Bool) (h : Nat) (s : σ) (hab : a < b) (hb : b ≤ n) : Way M n (5 * (2 * b + 1) + (b - a)) s (rdP M a b wb wp h s).2 := by
  unfold rdP
  split
  · exact (way_partI a b hb 5 (a + 1) s (by omega) (by omega)).mono (by omega)
  · exact .nil _ _

def costC (n : Nat) : Nat := 20 * n + 300
def costP (n m : Nat) : Nat := (2 * m + 1) * costC n
theorem costP_ge (n m : Nat) : costC n ≤ costP n m := by
  unfold costP
  exact Nat.le_mul_of_pos_left _ (by omega)
theorem costP_two (n x y m c : Nat) (h : x + y + 1 ≤ m) (hc : c ≤ costC n) : c + costP n x + costP n y ≤ costP n m := by
  have h1 : costP n x + costP n y + costC n = (2 * (x + y + 1) + 1) * costC n := by
    unfold costP
    rw [← Nat.add_mul]
    have h2 : (2 * x + 1 + (2 * y + 1)) * costC n + costC n = (2 * x + 1 + (2 * y + 1) + 1) * costC n := (Nat.succ_mul _ _).symm
    rw [h2]; congr 1; omega
  have h3 : (2 * (x + y + 1) + 1) * costC n ≤ costP n m := Nat.mul_le_mul_right _ (by omega)
  omega
theorem costP_one (n x m c : Nat) (h : x + 1 ≤ m) (hc : c ≤ costC n) : c + costP n x ≤ costP n m := by
  have := costP_two n x 0 m c (by omega) hc
  have h0 : costP n 0 = costC n := by unfold costP; omega
  omega

theorem way_pdqL (ho : OthOk oth) : ∀ (f a b lim : Nat) (wb wp : Bool) (s : σ), a ≤ b → b ≤ n → Way M n (costP n (b - a)) s (pdqL M oth f a b lim wb wp s)
  | 0, a, b, lim, wb, wp, s, _, _ => .nil _ _
  | f + 1, a, b, lim, wb, wp, s, hab, hb => by
    by_cases h : b - a ≤ 12
    · show Way M n _ s (if b - a ≤ 12 then _ else _)
      rw [if_pos h]
      refine (way_insSort a b s hb).mono (Nat.le_trans ?_ (costP_ge n (b - a)))
      have h1 : (b - a - 1) * (2 * (b - a)) ≤ 11 * 24 := Nat.mul_le_mul (by omega) (by omega)
      unfold costC
      omega
    · by_cases hl : lim = 0
      · subst hl
        rw [pdqL_heap h]
        refine (way_heapS a b s hab hb).mono ?_
        have h1 : ((b - a - 1) / 2 + 1) * (3 * (b - a)) ≤ (b - a) * (3 * (b - a)) := Nat.mul_le_mul (by omega) (Nat.le_refl _)
        have h2 : (b - a) * (3 * (b - a)) + (b - a) * (3 * (b - a) + 1) = (b - a) * (3 * (b - a) + (3 * (b - a) + 1)) := (Nat.mul_add _ _ _).symm
        have h3 : (b - a) * (3 * (b - a) + (3 * (b - a) + 1)) ≤ (2 * (b - a) + 1) * costC n := Nat.mul_le_mul (by omega) (by unfold costC; omega)
        unfold costP
        omega
      · rw [pdqL_round h hl]
        have w1 := way_rdA (M := M) (n := n) ho a b wb s hb
        generalize rdA M oth a b wb s = s1 at *
        have w2 := way_chooseP (M := M) (n := n) a b s1 (by omega) hb
        generalize chooseP M a b s1 = c at *
        have w3 := way_rdR (M := M) (n := n) a b c (by omega) hb
        generalize rdR M a b c = s2 at *
        have hpv := rdV_in a b c w2.2.1 w2.2.2
        generalize rdV a b c = pv at *
        have w4 := way_rdP (M := M) (n := n) a b wb wp (rdH c) s2 (by omega) hb
        generalize rdP M a b wb wp (rdH c) s2 = p at *
        have w5 := ((w1.trans w2.1).trans w3).trans w4
        split
        · exact w5.mono (Nat.le_trans (by unfold costC; omega) (costP_ge n (b - a)))
        · unfold rdT
          split
          · rename_i ha
            unfold rdE
            have w6 := way_partEq (M := M) (n := n) a b pv (M.tick p.2 (a - 1) pv) hpv.1 hpv.2 hb
            generalize partEq M a b pv (M.tick p.2 (a - 1) pv) = r at *
            have w7 := way_pdqL ho f r.1 b (limN lim wb) wb wp r.2 w6.2.2 hb
            have hc := costP_one n (b - r.1) (b - a) (3 + 12 + (b - a) + (5 * (2 * b + 1) + (b - a)) + 1 + (2 * (b - a) + 3)) (by omega) (by unfold costC; omega)
            exact (((w5.trans (Way.tick1 _ (by omega) (by omega))).trans w6.1).trans w7).mono (by omega)
          · have w6 : Way M n 1 p.2 (if 0 < a then M.tick p.2 (a - 1) pv else p.2) := by
              split
              · exact Way.tick1 _ (by omega) (by omega)
              · exact .nil _ _
            generalize (if 0 < a then M.tick p.2 (a - 1) pv else p.2) = t at *
            unfold rdU
            have w7 := way_partit (M := M) (n := n) a b pv t hpv.1 hpv.2 hb
            generalize partit M a b pv t = r at *
            have hc := costP_two n (r.1 - a) (b - (r.1 + 1)) (b - a) (3 + 12 + (b - a) + (5 * (2 * b + 1) + (b - a)) + 1 + (2 * (b - a) + 4)) (by omega) (by unfold costC; omega)
            split
            · have w8 := way_pdqL ho f a r.1 (limN lim wb) true true r.2.2 w7.2.1 (by omega)
              have w9 := way_pdqL ho f (r.1 + 1) b (limN lim wb) (decide ((b - a) / 8 ≤ r.1 - a)) r.2.1 (pdqL M oth f a r.1 (limN lim wb) true true r.2.2) (by omega) hb
              exact ((((w5.trans w6).trans w7.1).trans w8).trans w9).mono (by omega)
            · have w8 := way_pdqL ho f (r.1 + 1) b (limN lim wb) true true r.2.2 (by omega) hb
              have w9 := way_pdqL ho f a r.1 (limN lim wb) (decide ((b - a) / 8 ≤ b - r.1)) r.2.1 (pdqL M oth f (r.1 + 1) b (limN lim wb) true true r.2.2) w7.2.1 (by omega)
              exact ((((w5.trans w6).trans w7.1).trans w8).trans w9).mono (by omega)
theorem way_rdE (ho : OthOk oth) (f a b lim : Nat) (wb wp : Bool) (pv : Nat) (t : σ) (h1 : a ≤ pv) (h2 : pv < b) (hb : b ≤ n) : Rch M n (partEq M a b pv t).2 (rdE M oth f a b lim wb wp pv t) :=
  (way_pdqL ho f _ b lim wb wp _ (way_partEq (M := M) (n := n) a b pv t h1 h2 hb).2.2 hb).rch
theorem way_rdU (ho : OthOk oth) (f a b lim pv : Nat) (t : σ) (h1 : a ≤ pv) (h2 : pv < b) (hb : b ≤ n) : Rch M n (partit M a b pv t).2.2 (rdU M oth f a b lim pv t) := by
  unfold rdU
  have w7 := way_partit (M := M) (n := n) a b pv t h1 h2 hb
  generalize partit M a b pv t = r at *
  split
  · exact (way_pdqL ho f a r.1 lim true true r.2.2 w7.2.1 (by omega)).rch.trans (way_pdqL ho f (r.1 + 1) b lim _ _ _ (by omega) hb).rch
  · exact (way_pdqL ho f (r.1 + 1) b lim true true r.2.2 (by omega) hb).rch.trans (way_pdqL ho f a r.1 lim _ _ _ w7.2.1 (by omega)).rch
theorem way_rdT (ho : OthOk oth) (f a b lim : Nat) (wb wp : Bool) (pv : Nat) (s : σ) (h1 : a ≤ pv) (h2 : pv < b) (hb : b ≤ n) : Rch M n s (rdT M oth f a b lim wb wp pv s) := by
  unfold rdT
  split
  · exact ((Way.tick1 s (by omega) (by omega)).rch.trans (way_partEq (M := M) (n := n) a b pv _ h1 h2 hb).1.rch).trans (way_rdE ho f a b lim wb wp pv _ h1 h2 hb)
  · have w6 : Way M n 1 s (if 0 < a then M.tick s (a - 1) pv else s) := by
      split
      · exact Way.tick1 _ (by omega) (by omega)
      · exact .nil _ _
    exact (w6.rch.trans (way_partit (M := M) (n := n) a b pv _ h1 h2 hb).1.rch).trans (way_rdU ho f a b lim pv _ h1 h2 hb)
theorem way_pdqS (ho : OthOk oth) (s : σ) : Way M n (costP n n) s (pdqS M oth n s) := by
  unfold pdqS
  split
  · exact .nil _ _
  · exact way_pdqL ho n 0 n _ true true s (Nat.zero_le _) (Nat.le_refl _)
end
end Go.Proofs.Ytkklbnheiganlaa
