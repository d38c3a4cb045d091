/-
  How many questions and swaps pdqsort makes under any relation: the whole, for lists of at most 1048576. No program of Go is named here.
-/
import Derived.Test.YtkklbnheiganlaaPqB5
namespace Go.Proofs.Ytkklbnheiganlaa
set_option linter.unusedVariables false

def Psi (N : Nat) : Nat := 68 * (N * N) + 10000 * N
theorem Psi_bal1 (F u w : Nat) (h1 : u ≤ w) (h2 : w ≤ 7 * u + 20) : Phi F u + Phi 0 w ≤ Psi (F + u + w + 1) := by
  obtain ⟨d, rfl⟩ := Nat.exists_eq_add_of_le h1
  have hd : d ≤ 6 * u + 20 := by omega
  have h3 : d * d ≤ (6 * u + 20) * d := Nat.mul_le_mul_right _ hd
  have h4 : u * d ≤ u * (6 * u + 20) := Nat.mul_le_mul_left _ hd
  unfold Phi Psi
  simp only [Nat.mul_add, Nat.add_mul, Nat.mul_one, Nat.one_mul, Nat.zero_add, Nat.mul_assoc, Nat.mul_left_comm u 6, Nat.mul_comm u F, Nat.mul_comm d F, Nat.mul_comm d u] at h3 h4 ⊢
  omega
theorem Psi_bal2 (F u w : Nat) (h1 : w ≤ u) (h2 : u ≤ 7 * w + 20) : Phi F u + Phi 0 w ≤ Psi (F + u + w + 1) := by
  obtain ⟨d, rfl⟩ := Nat.exists_eq_add_of_le h1
  have hd : d ≤ 6 * w + 20 := by omega
  have h3 : d * d ≤ (6 * w + 20) * d := Nat.mul_le_mul_right _ hd
  have h4 : w * d ≤ w * (6 * w + 20) := Nat.mul_le_mul_left _ hd
  unfold Phi Psi
  simp only [Nat.mul_add, Nat.add_mul, Nat.mul_one, Nat.one_mul, Nat.zero_add, Nat.mul_assoc, Nat.mul_left_comm w 6, Nat.mul_comm w F, Nat.mul_comm d F, Nat.mul_comm d w] at h3 h4 ⊢
  omega
theorem Psi_un1 (F u w : Nat) (h1 : 7 * u ≤ w + 8) : Phi F u + Psi w ≤ Psi (F + u + w + 1) := by
  have h3 : 7 * (u * u) ≤ (w + 8) * u := by rw [← Nat.mul_assoc]; exact Nat.mul_le_mul_right _ h1
  unfold Phi Psi
  simp only [Nat.mul_add, Nat.add_mul, Nat.mul_one, Nat.one_mul, Nat.mul_comm u F, Nat.mul_comm w F, Nat.mul_comm w u] at h3 ⊢
  omega
theorem Psi_un2 (N w : Nat) (h1 : 7 * w ≤ N + 8) : Phi 0 w + Psi N ≤ Psi (N + w + 1) := by
  have h3 : 7 * (w * w) ≤ (N + 8) * w := by rw [← Nat.mul_assoc]; exact Nat.mul_le_mul_right _ h1
  unfold Phi Psi
  simp only [Nat.mul_add, Nat.add_mul, Nat.mul_one, Nat.one_mul, Nat.zero_add, Nat.mul_comm w N] at h3 ⊢
  omega
theorem Psi_lin (N : Nat) : 10000 * N ≤ Psi N := by unfold Psi; omega
theorem Psi_heap (F m : Nat) : 8 * (((m - 1) / 2 + 1) * (3 * m) + m * (3 * m + 1)) ≤ Psi (F + m) := by
  have h1 : ((m - 1) / 2 + 1) * (3 * m) ≤ (m + 1) * (3 * m) := Nat.mul_le_mul_right _ (by omega)
  have e1 : (m + 1) * (3 * m) = 3 * (m * m) + 3 * m := by rw [Nat.add_mul, Nat.one_mul, Nat.mul_left_comm]
  have e2 : m * (3 * m + 1) = 3 * (m * m) + m := by rw [Nat.mul_add, Nat.mul_one, Nat.mul_left_comm]
  have e3 : (F + m) * (F + m) = F * (F + m) + (m * F + m * m) := by rw [Nat.add_mul, Nat.mul_add m]
  unfold Psi
  rw [e2, e3]
  omega
theorem Psi_ins (F m : Nat) : 8 * ((m - 1) * (2 * m)) ≤ Psi (F + m) := by
  have h1 : (m - 1) * (2 * m) ≤ m * (2 * m) := Nat.mul_le_mul_right _ (by omega)
  have e1 : m * (2 * m) = 2 * (m * m) := Nat.mul_left_comm _ _ _
  have e3 : (F + m) * (F + m) = F * (F + m) + (m * F + m * m) := by rw [Nat.add_mul, Nat.mul_add m]
  unfold Psi
  rw [e3]
  omega
/-- What a limit of so many unbalanced rounds adds. -/
def Ext (l N : Nat) : Nat := l * (40 * N + 400)
theorem Ext_le {l l' N N' : Nat} (h1 : l ≤ l') (h2 : N ≤ N') : Ext l N ≤ Ext l' N' := Nat.mul_le_mul h1 (by omega)
theorem Ext_succ (l N : Nat) : Ext (l + 1) N = Ext l N + (40 * N + 400) := Nat.succ_mul _ _

section
variable {σ : Type} {M : Mach σ} {oth : Nat → Nat → Nat} {T : Nat → Nat → Bool} {v : σ → Nat → Nat} (V : View M T v)
include V

theorem pdqL_psi (ho : OthOk oth) : ∀ (f a b c lim : Nat) (wb wp : Bool) (s : σ), (wb = false ∨ a = 0) → c ≤ a → a ≤ b → Bar T c b (v s) →
    ∃ K, Wy M c b K s (pdqL M oth f a b lim wb wp s) ∧ 8 * K ≤ Psi (b - c) + Ext lim (b - c) + (if wb then 120 * (b - c) + 400 else 0)
  | 0, a, b, c, lim, wb, wp, s, hw, hca, hab, hB => ⟨0, .nil _ _, by omega⟩
  | f + 1, a, b, c, lim, wb, wp, s, hw, hca, hab, hB => by
    have hFm : a - c + (b - a) = b - c := by omega
    by_cases h : b - a ≤ 12
    · show ∃ K, Wy M c b K s (if b - a ≤ 12 then _ else _) ∧ _
      rw [if_pos h]
      have h0 := Psi_ins (a - c) (b - a)
      rw [hFm] at h0
      exact ⟨_, wy_insSort a b s hca (Nat.le_refl _), by omega⟩
    · by_cases hl : lim = 0
      · subst hl
        rw [pdqL_heap h]
        have h0 := Psi_heap (a - c) (b - a)
        rw [hFm] at h0
        exact ⟨_, wy_heapS a b s hab hca (Nat.le_refl _), by omega⟩
      · rw [pdqL_round h hl]
        have hpv : a ≤ rdV a b (chooseP M a b (rdA M oth a b wb s)) ∧ rdV a b (chooseP M a b (rdA M oth a b wb s)) < b := by
          have w := way_chooseP (M := M) (n := b) a b (rdA M oth a b wb s) (by omega) (Nat.le_refl _)
          exact rdV_in a b _ w.2.1 w.2.2
        obtain ⟨Kc, wc, kc1, kc2⟩ := head_crude (M := M) (oth := oth) V ho (wb := wb) (wp := wp) (s := s) hca (by omega) hB
        generalize rdV a b (chooseP M a b (rdA M oth a b wb s)) = pv at *
        generalize rdP M a b wb wp (rdH (chooseP M a b (rdA M oth a b wb s))) (rdR M a b (chooseP M a b (rdA M oth a b wb s))) = p at *
        have hlin := Psi_lin (b - c)
        -- what this round may cost
        have hcost : 8 * (Kc + 1 + (2 * (b - a) + 4)) + Ext (limN lim wb) (b - c) ≤ Ext lim (b - c) + (if wb then 120 * (b - c) + 400 else 0) := by
          obtain ⟨l, rfl⟩ : ∃ l, lim = l + 1 := ⟨lim - 1, by omega⟩
          cases wb
          · have h1 := kc2 (.inl rfl)
            have h2 : limN (l + 1) false = l := rfl
            rw [h2, Ext_succ, if_neg (by decide)]
            omega
          · have h2 : limN (l + 1) true = l + 1 := rfl
            rw [h2, if_pos rfl]
            omega
        by_cases hp1 : p.1 = true
        · rw [if_pos hp1]
          exact ⟨Kc, wc, by omega⟩
        · rw [if_neg hp1]
          unfold rdT
          by_cases hE : 0 < a ∧ M.less p.2 (a - 1) pv = false
          · rw [if_pos hE]
            obtain rfl : wb = false := by
              rcases hw with hw | hw
              · exact hw
              · exact absurd hE.1 (by omega)
            unfold rdE
            have wt : Wy M c b 1 p.2 (M.tick p.2 (a - 1) pv) := Wy.tick1 _ _ _
            generalize M.tick p.2 (a - 1) pv = t0 at *
            have we := wy_partEq (M := M) (lo := c) (hi := b) a b pv t0 hpv.1 hpv.2 hca (Nat.le_refl _)
            generalize partEq M a b pv t0 = r at *
            obtain ⟨r1, s'⟩ := r
            dsimp only at *
            have hB' : Bar T c b (v s') := hB.wy V ((wc.trans wt).trans we.1)
            obtain ⟨K2, w2, k2⟩ := pdqL_psi ho f r1 b c (limN lim false) false wp s' (.inl rfl) (by omega) we.2.2 hB'
            rw [if_neg (by decide)] at k2
            exact ⟨Kc + 1 + (2 * (b - a) + 3) + K2, ((wc.trans wt).trans we.1).trans w2, by omega⟩
          · rw [if_neg hE]
            have wt : Wy M c b 1 p.2 (if 0 < a then M.tick p.2 (a - 1) pv else p.2) := by
              split
              · exact Wy.tick1 _ _ _
              · exact .nil _ _
            generalize (if 0 < a then M.tick p.2 (a - 1) pv else p.2) = t0 at *
            unfold rdU
            have wp' := wy_partit (M := M) (lo := c) (hi := b) a b pv t0 hpv.1 hpv.2 hca (Nat.le_refl _)
            have hbar := partit_bar V (s := t0) hpv.1 hpv.2
            generalize partit M a b pv t0 = r at *
            obtain ⟨mid, ap, s'⟩ := r
            dsimp only at *
            have hB' : Bar T c b (v s') := hB.wy V ((wc.trans wt).trans wp'.1)
            have hN : a - c + (mid - a) + (b - (mid + 1)) + 1 = b - c := by omega
            split
            · rename_i hlr
              obtain ⟨K1, w1, k1, _⟩ := pdqL_phi V ho f a mid c (limN lim wb) true true s' hca wp'.2.1 (hB'.lower (by omega))
              have hBr : Bar T (mid + 1) b (v (pdqL M oth f a mid (limN lim wb) true true s')) := .inr fun x h1 h2 => by
                rw [w1.out V (x := x) (by omega), Nat.add_sub_cancel, w1.out V (x := mid) (by omega)]
                exact hbar x (by omega) h2
              by_cases hbal : (b - a) / 8 ≤ mid - a
              · obtain ⟨K2, w2, k2, _⟩ := pdqL_phi V ho f (mid + 1) b (mid + 1) (limN lim wb) (decide ((b - a) / 8 ≤ mid - a)) ap _ (Nat.le_refl _) (by omega) hBr
                rw [Nat.sub_self] at k2
                have hP := Psi_bal1 (a - c) (mid - a) (b - (mid + 1)) (by omega) (by omega)
                rw [hN] at hP
                exact ⟨Kc + 1 + (2 * (b - a) + 4) + K1 + K2, ((((wc.trans wt).trans wp'.1).trans (w1.wide (Nat.le_refl _) (by omega))).trans (w2.wide (by omega) (Nat.le_refl _))), by omega⟩
              · rw [decide_eq_false hbal]
                obtain ⟨K2, w2, k2⟩ := pdqL_psi ho f (mid + 1) b (mid + 1) (limN lim wb) false ap _ (.inl rfl) (Nat.le_refl _) (by omega) hBr
                rw [if_neg (by decide)] at k2
                have hP := Psi_un1 (a - c) (mid - a) (b - (mid + 1)) (by omega)
                rw [hN] at hP
                have hX := Ext_le (Nat.le_refl (limN lim wb)) (show b - (mid + 1) ≤ b - c by omega)
                exact ⟨Kc + 1 + (2 * (b - a) + 4) + K1 + K2, ((((wc.trans wt).trans wp'.1).trans (w1.wide (Nat.le_refl _) (by omega))).trans (w2.wide (by omega) (Nat.le_refl _))), by omega⟩
            · rename_i hlr
              obtain ⟨K1, w1, k1, _⟩ := pdqL_phi V ho f (mid + 1) b (mid + 1) (limN lim wb) true true s' (Nat.le_refl _) (by omega) (.inr fun x h1 h2 => by rw [Nat.add_sub_cancel]; exact hbar x (by omega) h2)
              have hBl : Bar T c mid (v (pdqL M oth f (mid + 1) b (limN lim wb) true true s')) := (hB'.lower (b' := mid) (by omega)).same (fun x hx => w1.out V (.inl (by omega))) (by omega)
              rw [Nat.sub_self] at k1
              by_cases hbal : (b - a) / 8 ≤ b - mid
              · obtain ⟨K2, w2, k2, _⟩ := pdqL_phi V ho f a mid c (limN lim wb) (decide ((b - a) / 8 ≤ b - mid)) ap _ hca (by omega) hBl
                have hP := Psi_bal2 (a - c) (mid - a) (b - (mid + 1)) (by omega) (by omega)
                rw [hN] at hP
                exact ⟨Kc + 1 + (2 * (b - a) + 4) + K1 + K2, ((((wc.trans wt).trans wp'.1).trans (w1.wide (by omega) (Nat.le_refl _))).trans (w2.wide (Nat.le_refl _) (by omega))), by omega⟩
              · rw [decide_eq_false hbal]
                obtain ⟨K2, w2, k2⟩ := pdqL_psi ho f a mid c (limN lim wb) false ap _ (.inl rfl) hca (by omega) hBl
                rw [if_neg (by decide)] at k2
                have hP := Psi_un2 (mid - c) (b - (mid + 1)) (by omega)
                rw [show mid - c + (b - (mid + 1)) + 1 = b - c by omega] at hP
                have hX := Ext_le (Nat.le_refl (limN lim wb)) (show mid - c ≤ b - c by omega)
                exact ⟨Kc + 1 + (2 * (b - a) + 4) + K1 + K2, ((((wc.trans wt).trans wp'.1).trans (w1.wide (by omega) (Nat.le_refl _))).trans (w2.wide (Nat.le_refl _) (by omega))), by omega⟩

/-- A list of at most 1048576: so many questions and swaps. -/
theorem pdqS_cost (ho : OthOk oth) {c : σ → Nat} (G : Costs M c) (n : Nat) (s : σ) (hn : n ≤ 1048576) : c (pdqS M oth n s) ≤ c s + 9381000000000 := by
  unfold pdqS
  split
  · omega
  · rename_i h1
    obtain ⟨K, w, k⟩ := pdqL_psi V ho n 0 n 0 (bitsL n) true true s (.inr rfl) (Nat.le_refl _) (Nat.zero_le _) (.inl rfl)
    have h2 := w.cost G
    rw [Nat.sub_zero, if_pos rfl] at k
    have hb : bitsL n ≤ 21 := by
      unfold bitsL
      rw [if_neg (by omega)]
      have := (Nat.log2_lt (n := n) (k := 21) (by omega)).2 (by omega)
      omega
    have h3 := Ext_le hb hn
    have h4 : n * n ≤ 1048576 * 1048576 := Nat.mul_le_mul hn hn
    unfold Psi at k
    have h5 : Ext 21 1048576 = 880812240 := rfl
    omega
end
end Go.Proofs.Ytkklbnheiganlaa
