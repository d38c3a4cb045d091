/-
  How many questions and swaps pdqsort makes under any relation: the loop in a range with a floor. No program of Go is named here.
-/
import Derived.Test.YtkklbnheiganlaaPqB4
namespace Go.Proofs.Ytkklbnheiganlaa
set_option linter.unusedVariables false

/-- A round that takes the pivot alone: its cost is paid. -/
theorem pay_one {F y a b c i t pv K K2 rev P : Nat} (ha : a = c + F) (hb : b = a + (y + 1)) (hm : 50 ≤ y + 1) (h1 : a + 1 ≤ i) (h2 : i ≤ b) (h3 : a + 5 ≤ t)
    (hr : rev ≤ (y + 1) / 2) (hK : K + 2 * (t - (a + 5)) ≤ rev + (i - (a + 1)) + 10 * (b - c) + 27)
    (hp : i = a + 1 ∨ (a + (y + 1) / 2 ≤ pv + 2 ∧ pv ≤ a + (y + 1) / 2 + 2)) (hg : i = a + 1 ∨ i ≤ pv ∨ pv ≤ t) (h8 : 8 * K2 ≤ P) (hq : i = a + 1 ∨ i ≤ a + 1 + y / 4 * 1 ∨ a + 1 + y / 4 * 1 ≤ t ∨ y < 50 ∨ 8 * K2 + 2 * y ≤ P) :
    8 * (K + 1 + (b - a + 2) + K2) ≤ P + 80 * (F + 1 + y) + 14 * y + 8007 ∧ (rev = 0 → 8 * (K + 1 + (b - a + 2) + K2) + 2 * (b - a) ≤ P + 80 * (F + 1 + y) + 14 * y + 8007) := by
  subst ha hb
  constructor
  · rcases hp with hp | hp
    · omega
    · rcases hg with hg | hg | hg <;> rcases hq with hq | hq | hq | hq | hq <;> omega
  · intro h0
    subst h0
    rcases hp with hp | hp
    · omega
    · rcases hg with hg | hg | hg <;> rcases hq with hq | hq | hq | hq | hq <;> omega

section
variable {σ : Type} {M : Mach σ} {oth : Nat → Nat → Nat} {T : Nat → Nat → Bool} {v : σ → Nat → Nat} (V : View M T v)
include V

theorem pdqL_phi (ho : OthOk oth) : ∀ (f a b c lim : Nat) (wb wp : Bool) (s : σ), c ≤ a → a ≤ b → Bar T c b (v s) →
    ∃ K, Wy M c b K s (pdqL M oth f a b lim wb wp s) ∧ 8 * K ≤ Phi (a - c) (b - a) ∧ (wb = true → Chi T a b (v s) → 8 * K + 2 * (b - a) ≤ Phi (a - c) (b - a))
  | 0, a, b, c, lim, wb, wp, s, hca, hab, hB => by
    have h0 := Phi_lin (a - c) (b - a)
    exact ⟨0, .nil _ _, by omega, fun _ _ => by omega⟩
  | f + 1, a, b, c, lim, wb, wp, s, hca, hab, hB => by
    by_cases h : b - a ≤ 12
    · show ∃ K, Wy M c b K s (if b - a ≤ 12 then _ else _) ∧ _
      rw [if_pos h]
      exact ⟨_, wy_insSort a b s hca (Nat.le_refl _), Phi_ins _ _, fun _ g => absurd g.1 (by omega)⟩
    · by_cases hl : lim = 0
      · subst hl
        rw [pdqL_heap h]
        have h0 := Phi_heap (a - c) (b - a)
        exact ⟨_, wy_heapS a b s hab hca (Nat.le_refl _), by omega, fun _ _ => h0⟩
      · rw [pdqL_round h hl]
        have hpv : a ≤ rdV a b (chooseP M a b (rdA M oth a b wb s)) ∧ rdV a b (chooseP M a b (rdA M oth a b wb s)) < b := by
          have w := way_chooseP (M := M) (n := b) a b (rdA M oth a b wb s) (by omega) (Nat.le_refl _)
          exact rdV_in a b _ w.2.1 w.2.2
        have hcr := head_crude (M := M) (oth := oth) V ho (wb := wb) (wp := wp) (s := s) hca (by omega) hB
        have hsh : wb = true → 50 ≤ b - a → _ := fun e hm => head_sharp (M := M) V (wp := wp) (s := s) hca hm hB
        have hA : wb = true → rdA M oth a b wb s = s := fun e => by unfold rdA; rw [e]; rfl
        have hsh2 : wb = true → 50 ≤ b - a → ∃ K i t rev, Wy M c b K s (rdP M a b wb wp (rdH (chooseP M a b (rdA M oth a b wb s))) (rdR M a b (chooseP M a b (rdA M oth a b wb s)))).2 ∧ a + 1 ≤ i ∧ i ≤ b ∧ a + 5 ≤ t ∧
            ((rdP M a b wb wp (rdH (chooseP M a b (rdA M oth a b wb s))) (rdR M a b (chooseP M a b (rdA M oth a b wb s)))).1 = false → Good T t i (v (rdP M a b wb wp (rdH (chooseP M a b (rdA M oth a b wb s))) (rdR M a b (chooseP M a b (rdA M oth a b wb s)))).2)) ∧
            rev ≤ (b - a) / 2 ∧ K + 2 * (t - (a + 5)) ≤ rev + (i - (a + 1)) + 10 * (b - c) + 27 ∧
            (i = a + 1 ∨ (a + (b - a) / 2 ≤ rdV a b (chooseP M a b (rdA M oth a b wb s)) + 2 ∧ rdV a b (chooseP M a b (rdA M oth a b wb s)) ≤ a + (b - a) / 2 + 2)) ∧ (Chi T a b (v s) → rev = 0) := fun e hm => by
          rw [hA e, e]
          obtain ⟨K, i, t, g1, g2, g3, g4, g5, g6, g7, g8⟩ := head_sharp (M := M) V (wp := wp) (s := s) hca hm hB
          refine ⟨K, i, t, _, g1, g2, g3, g4, g5, ?_, g6, g7, fun hc => ?_⟩
          · split <;> omega
          · by_cases h2 : (chooseP M a b s).2.1 = 2
            · exact absurd hc (g8 h2)
            · rw [if_neg h2]
        clear hsh
        generalize rdV a b (chooseP M a b (rdA M oth a b wb s)) = pv at *
        generalize rdP M a b wb wp (rdH (chooseP M a b (rdA M oth a b wb s))) (rdR M a b (chooseP M a b (rdA M oth a b wb s))) = p at *
        obtain ⟨Kc, wc, kc1, kc2⟩ := hcr
        have hsq := Phi_sq (a - c) (b - a) (by omega)
        have hFm : a - c + (b - a) = b - c := by omega
        rw [hFm] at hsq
        by_cases hp1 : p.1 = true
        · rw [if_pos hp1]
          exact ⟨Kc, wc, by omega, fun _ _ => by omega⟩
        · rw [if_neg hp1]
          have hp1 : p.1 = false := Bool.eq_false_iff.2 hp1
          unfold rdT
          by_cases hE : 0 < a ∧ M.less p.2 (a - 1) pv = false
          · rw [if_pos hE]
            unfold rdE
            have et : v (M.tick p.2 (a - 1) pv) = v p.2 := V.tick _ _ _
            have wt : Wy M c b 1 p.2 (M.tick p.2 (a - 1) pv) := Wy.tick1 _ _ _
            generalize M.tick p.2 (a - 1) pv = t0 at *
            have we := wy_partEq (M := M) (lo := c) (hi := b) a b pv t0 hpv.1 hpv.2 hca (Nat.le_refl _)
            have h1 := fun hr => partEq_one V (s := t0) hca hpv.1 hpv.2 (by omega) hr
            generalize partEq M a b pv t0 = r at *
            obtain ⟨r1, s'⟩ := r
            dsimp only at *
            have hB' : Bar T c b (v s') := hB.wy V ((wc.trans wt).trans we.1)
            obtain ⟨K2, w2, k2, k2c⟩ := pdqL_phi ho f r1 b c (limN lim wb) wb wp s' (by omega) we.2.2 hB'
            by_cases hr : r1 = a + 1
            · obtain ⟨y, hy⟩ : ∃ y, b - a = y + 1 := ⟨b - a - 1, by omega⟩
              have hP : Phi (a - c) (y + 1) = Phi (r1 - c) y + 80 * (a - c + 1 + y) + 14 * y + 8007 := by rw [show r1 - c = a - c + 1 by omega]; exact Phi_one (a - c) y
              rw [show b - r1 = y by omega] at k2
              by_cases hsharp : wb = true ∧ 50 ≤ b - a
              · obtain ⟨K, i, t, rev, g1, g2, g3, g4, g5, g6, g7, g8, g9⟩ := hsh2 hsharp.1 hsharp.2
                obtain ⟨q1, q2, q3⟩ := h1 hr
                have hGd := g5 hp1
                have hg : i = a + 1 ∨ i ≤ pv ∨ pv ≤ t := by
                  by_cases hh : i = a + 1 ∨ i ≤ pv ∨ pv ≤ t
                  · exact hh
                  · have h6 := hGd pv (by omega) (by omega)
                    have h7 := q3 (pv - 1) (by omega) (by omega)
                    unfold swapF at h7
                    rw [if_neg (by omega), if_neg (by omega), et, h6] at h7
                    exact absurd h7 (by decide)
                have hq : i = a + 1 ∨ i ≤ a + 1 + y / 4 * 1 ∨ a + 1 + y / 4 * 1 ≤ t ∨ y < 50 ∨ 8 * K2 + 2 * y ≤ Phi (r1 - c) y := by
                  by_cases hh : i = a + 1 ∨ i ≤ a + 1 + y / 4 * 1 ∨ a + 1 + y / 4 * 1 ≤ t ∨ y < 50
                  · omega
                  · have hx : Chi T r1 b (v s') := by
                      refine ⟨by omega, ?_⟩
                      rw [show b - r1 = y by omega, hr, q2, et]
                      unfold swapF
                      rw [if_neg (by omega), if_neg (by omega), if_neg (by omega), if_neg (by omega)]
                      exact hGd _ (by omega) (by omega)
                    have h6 := k2c hsharp.1 hx
                    rw [show b - r1 = y by omega] at h6
                    omega
                have hpay := pay_one (F := a - c) (y := y) (P := Phi (r1 - c) y) (pv := pv) (by omega) (by omega) (by omega) g2 g3 g4 (by rw [← hy]; exact g6) g7 (by rw [← hy]; exact g8) hg k2 hq
                refine ⟨K + 1 + (b - a + 2) + K2, ((g1.trans wt).trans q1).trans w2, ?_, fun _ hc => ?_⟩
                · rw [hy, hP, ← hy]; exact hpay.1
                · have := hpay.2 (g9 hc)
                  rw [hy] at this ⊢
                  rw [hP]; exact this
              · have kc3 := kc2 (by
                  by_cases hw : wb = true
                  · exact .inr (Nat.lt_of_not_le fun z => hsharp ⟨hw, z⟩)
                  · exact .inl (Bool.eq_false_iff.2 hw))
                obtain ⟨q1, q2, q3⟩ := h1 hr
                refine ⟨Kc + 1 + (b - a + 2) + K2, ((wc.trans wt).trans q1).trans w2, ?_, fun _ hc => ?_⟩
                · rw [hy, hP]; omega
                · rw [hy, hP]; omega
            · obtain ⟨τ, hτ⟩ : ∃ τ, r1 = a + τ := ⟨r1 - a, by omega⟩
              have hP := Phi_more (a - c) τ (b - r1) (by omega)
              rw [show a - c + τ = r1 - c by omega, show τ + (b - r1) = b - a by omega] at hP
              exact ⟨Kc + 1 + (2 * (b - a) + 3) + K2, ((wc.trans wt).trans we.1).trans w2, by omega, fun _ _ => by omega⟩
          · rw [if_neg hE]
            have wt : Wy M c b 1 p.2 (if 0 < a then M.tick p.2 (a - 1) pv else p.2) := by
              split
              · exact Wy.tick1 _ _ _
              · exact .nil _ _
            generalize (if 0 < a then M.tick p.2 (a - 1) pv else p.2) = t0 at *
            unfold rdU
            have wp' := wy_partit (M := M) (lo := c) (hi := b) a b pv t0 hpv.1 hpv.2 hca (Nat.le_refl _)
            have hbar := partit_bar V (s := t0) hpv.1 hpv.2
            generalize partit M a b pv t0 = r at *
            obtain ⟨mid, ap, s'⟩ := r
            dsimp only at *
            have hB' : Bar T c b (v s') := hB.wy V ((wc.trans wt).trans wp'.1)
            have hP := Phi_part (a - c) (mid - a) (b - (mid + 1))
            rw [show mid - a + (b - (mid + 1)) + 1 = b - a by omega] at hP
            split
            · obtain ⟨K1, w1, k1, _⟩ := pdqL_phi ho f a mid c (limN lim wb) true true s' hca wp'.2.1 (hB'.lower (by omega))
              have hBr : Bar T (mid + 1) b (v (pdqL M oth f a mid (limN lim wb) true true s')) := .inr fun x h1 h2 => by
                rw [w1.out V (x := x) (by omega), Nat.add_sub_cancel, w1.out V (x := mid) (by omega)]
                exact hbar x (by omega) h2
              obtain ⟨K2, w2, k2, _⟩ := pdqL_phi ho f (mid + 1) b (mid + 1) (limN lim wb) (decide ((b - a) / 8 ≤ mid - a)) ap _ (Nat.le_refl _) (by omega) hBr
              rw [Nat.sub_self] at k2
              exact ⟨Kc + 1 + (2 * (b - a) + 4) + K1 + K2, ((((wc.trans wt).trans wp'.1).trans (w1.wide (Nat.le_refl _) (by omega))).trans (w2.wide (by omega) (Nat.le_refl _))), by omega, fun _ _ => by omega⟩
            · obtain ⟨K1, w1, k1, _⟩ := pdqL_phi ho f (mid + 1) b (mid + 1) (limN lim wb) true true s' (Nat.le_refl _) (by omega) (.inr fun x h1 h2 => by rw [Nat.add_sub_cancel]; exact hbar x (by omega) h2)
              have hBl : Bar T c mid (v (pdqL M oth f (mid + 1) b (limN lim wb) true true s')) := (hB'.lower (b' := mid) (by omega)).same (fun x hx => w1.out V (.inl (by omega))) (by omega)
              obtain ⟨K2, w2, k2, _⟩ := pdqL_phi ho f a mid c (limN lim wb) (decide ((b - a) / 8 ≤ b - mid)) ap _ hca (by omega) hBl
              rw [Nat.sub_self] at k1
              exact ⟨Kc + 1 + (2 * (b - a) + 4) + K1 + K2, ((((wc.trans wt).trans wp'.1).trans (w1.wide (by omega) (Nat.le_refl _))).trans (w2.wide (Nat.le_refl _) (by omega))), by omega, fun _ _ => by omega⟩
end
end Go.Proofs.Ytkklbnheiganlaa
