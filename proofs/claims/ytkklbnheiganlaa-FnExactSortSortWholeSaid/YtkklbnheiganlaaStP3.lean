/-
  What the stable sort does to a view of the machine's state: third part: symMerge whole, insertion, and the sort. No program of Go is named here.
-/
import Derived.Test.YtkklbnheiganlaaStP2
namespace Go.Proofs.Ytkklbnheiganlaa
set_option linter.unusedVariables false

section
variable {σ : Type} {M : Mach σ} {T : Nat → Nat → Bool} {v : σ → Nat → Nat}

def MergeOk (M : Mach σ) (T : Nat → Nat → Bool) (v : σ → Nat → Nat) (f : Nat) : Prop :=
  ∀ (a m b : Nat) (s : σ), a < m → m < b → b - a ≤ f → Into a b (v s) (v (symM M f a m b s)) ∧ Merges T a m b (v s) (v (symM M f a m b s))

theorem symIf {f : Nat} (IH : MergeOk M T v f) (a m b : Nat) (s : σ) (h1 : a ≤ m) (h2 : m ≤ b) (hf : a < m → m < b → b - a ≤ f) :
    Into a b (v s) (v (if a < m ∧ m < b then symM M f a m b s else s)) ∧ Merges T a m b (v s) (v (if a < m ∧ m < b then symM M f a m b s else s)) := by
  by_cases c : a < m ∧ m < b
  · rw [if_pos c]; exact IH a m b s c.1 c.2 (hf c.1 c.2)
  · rw [if_neg c]
    refine ⟨Into.refl _ _ _, fun μ hl hr _ _ => ?_⟩
    rcases Nat.lt_or_ge a m with h | h
    · obtain rfl : m = b := by omega
      exact hl
    · obtain rfl : a = m := by omega
      exact hr

theorem symTail_spec (S : Swo T) (V : View M T v) {f : Nat} (IH : MergeOk M T v f) (a m b mid st e : Nat) (t : σ) (he : mid + m - st = e) (h1 : a ≤ st) (h2 : st ≤ m) (h3 : st ≤ mid) (h4 : m ≤ e) (h5 : e ≤ b) (ha : a < m) (hb : m < b) (hm1 : a < mid) (hm2 : mid < b) (hf : b - a ≤ f + 1) :
    Into a b (v t) (v (symTail M f a m b mid st t)) ∧
    ∀ μ, Ord T (v t) a m → Ord T (v t) m b → (∀ k, a ≤ k → k < m → v t k < μ) → (∀ k, m ≤ k → k < b → μ ≤ v t k) →
      (∀ l k, a ≤ l → l < st → e ≤ k → k < b → Bf T (v t l) (v t k)) → (∀ l k, st ≤ l → l < m → m ≤ k → k < e → Bf T (v t k) (v t l)) → Ord T (v (symTail M f a m b mid st t)) a b := by
  unfold symTail
  dsimp only
  rw [he]
  have hv1 : v (if st < m ∧ m < e then rotate M st m e t else t) = rotF st m e (v t) := by
    by_cases c : st < m ∧ m < e
    · rw [if_pos c]; exact v_rotate V st m e t c.1 c.2
    · rw [if_neg c]
      rcases Nat.lt_or_ge st m with h | h
      · obtain rfl : m = e := by omega
        exact (rotF_left h2).symm
      · obtain rfl : st = m := by omega
        exact (rotF_right h4).symm
  generalize (if st < m ∧ m < e then rotate M st m e t else t) = s1 at hv1 ⊢
  have p1 := symIf IH a st mid s1 h1 h3 (by omega)
  generalize (if a < st ∧ st < mid then symM M f a st mid s1 else s1) = s2 at p1 ⊢
  have p2 := symIf IH mid e b s2 (by omega) h5 (by omega)
  generalize (if mid < e ∧ e < b then symM M f mid e b s2 else s2) = s3 at p2 ⊢
  obtain ⟨i1, g1⟩ := p1
  obtain ⟨i2, g2⟩ := p2
  rw [hv1] at i1 g1
  have i0 : Into a b (v t) (rotF st m e (v t)) := rot_into h1 h2 h4 h5
  refine ⟨(i0.trans (i1.wide (Nat.le_refl _) (by omega))).trans (i2.wide (by omega) (Nat.le_refl _)), fun μ hl hr t1 t2 X1 X2 => ?_⟩
  generalize hd : v t = d at *
  have hlow : ∀ x, x < st → rotF st m e d x = d x := fun x hx => rotF_out (.inl hx)
  have hfst : ∀ x, st ≤ x → x < mid → rotF st m e d x = d (x + (m - st)) := fun x q1 q2 => rotF_fst q1 (by omega) h4 h2
  have hsnd : ∀ x, mid ≤ x → x < e → rotF st m e d x = d (x - (e - m)) := fun x q1 q2 => rotF_snd (by omega) q2 h4 h2
  have hhi : ∀ x, e ≤ x → rotF st m e d x = d x := fun x hx => rotF_out (.inr hx)
  generalize rotF st m e d = d1 at *
  have o1 : Ord T (v s2) a mid := g1 μ (fun x y q1 q2 q3 => by rw [hlow x (by omega), hlow y q3]; exact hl x y q1 q2 (by omega))
    (fun x y q1 q2 q3 => by rw [hfst x q1 (by omega), hfst y (by omega) q3]; exact hr _ _ (by omega) (by omega) (by omega))
    (fun k q1 q2 => by rw [hlow k q2]; exact t1 k q1 (by omega)) (fun k q1 q2 => by rw [hfst k q1 q2]; exact t2 _ (by omega) (by omega))
  have e2 : ∀ x, mid ≤ x → v s2 x = d1 x := fun x q => i1.2 x (by omega)
  have o2 : Ord T (v s3) mid b := g2 μ (fun x y q1 q2 q3 => by rw [e2 x q1, e2 y (by omega), hsnd x q1 (by omega), hsnd y (by omega) q3]; exact hl _ _ (by omega) (by omega) (by omega))
    (fun x y q1 q2 q3 => by rw [e2 x (by omega), e2 y (by omega), hhi x q1, hhi y (by omega)]; exact hr x y (by omega) q2 q3)
    (fun k q1 q2 => by rw [e2 k q1, hsnd k q1 q2]; exact t1 _ (by omega) (by omega)) (fun k q1 q2 => by rw [e2 k (by omega), hhi k q1]; exact t2 k (by omega) q2)
  have cross : ∀ l l', a ≤ l → l < mid → mid ≤ l' → l' < b → Bf T (d1 l) (d1 l') := by
    intro l l' q1 q2 q3 q4
    rcases Nat.lt_or_ge l st with c1 | c1
    · rw [hlow l c1]
      rcases Nat.lt_or_ge l' e with c2 | c2
      · rw [hsnd l' q3 c2]; exact hl _ _ q1 (by omega) (by omega)
      · rw [hhi l' c2]; exact X1 _ _ q1 c1 c2 q4
    · rw [hfst l c1 q2]
      rcases Nat.lt_or_ge l' e with c2 | c2
      · rw [hsnd l' q3 c2]; exact X2 _ _ (by omega) (by omega) (by omega) (by omega)
      · rw [hhi l' c2]; exact hr _ _ (by omega) (by omega) q4
  intro x y q1 q2 q3
  rcases Nat.lt_or_ge y mid with c1 | c1
  · rw [i2.2 x (by omega), i2.2 y (by omega)]; exact o1 x y q1 q2 c1
  · rcases Nat.lt_or_ge x mid with c2 | c2
    · rw [i2.2 x (by omega)]
      obtain ⟨l, l1, l2, el⟩ := i1.1 x q1 c2
      obtain ⟨l', l1', l2', el'⟩ := i2.1 y c1 q3
      rw [el, el', e2 l' l1']
      exact cross l l' l1 l2 l1' l2'
    · exact o2 x y c2 q2 q3

theorem symM_more (S : Swo T) (V : View M T v) {f : Nat} (IH : MergeOk M T v f) (a m b : Nat) (s : σ) (h1 : a + 1 < m) (h2 : m + 1 < b) (hf : b - a ≤ f + 1) : Into a b (v s) (v (symM M (f + 1) a m b s)) ∧ Merges T a m b (v s) (v (symM M (f + 1) a m b s)) := by
  have hsy : symM M (f + 1) a m b s = symTail M f a m b ((a + b) / 2) (symMStart M a m b s).1 (symMStart M a m b s).2 := by
    show (if m - a = 1 then _ else if b - m = 1 then _ else _) = _
    rw [if_neg (by omega), if_neg (by omega)]
    rfl
  have hvs : v (symMStart M a m b s).2 = v s := by
    unfold symMStart bsr
    split <;> exact v_bsL V _ _ _ _ _ _ _
  rw [hsy]
  generalize hmid : (a + b) / 2 = mid
  have hm1 : a < mid := by omega
  have hm2 : mid < b := by omega
  -- what the search tells
  have key : a ≤ (symMStart M a m b s).1 ∧ (symMStart M a m b s).1 ≤ m ∧ (symMStart M a m b s).1 ≤ mid ∧ mid + m - b ≤ (symMStart M a m b s).1 ∧
      (a < (symMStart M a m b s).1 → mid + m - b < (symMStart M a m b s).1 → T (v s (mid + m - (symMStart M a m b s).1)) (v s ((symMStart M a m b s).1 - 1)) = false) ∧
      ((symMStart M a m b s).1 < m → (symMStart M a m b s).1 < mid → T (v s (mid + m - (symMStart M a m b s).1 - 1)) (v s (symMStart M a m b s).1) = true) := by
    unfold symMStart
    rw [hmid]
    by_cases c : mid < m
    · rw [if_pos c]
      unfold bsr
      have hE := bsL_ends V (fun c => mid + m - 1 - c) (fun c => c) false (mid - (mid + m - b)) (mid + m - b) mid s (by omega) (Nat.le_refl _)
      have hR := bsL_range (M := M) (x := fun c => mid + m - 1 - c) (y := fun c => c) (up := false) (mid - (mid + m - b)) (mid + m - b) mid s (by omega)
      generalize (bsL M (fun c => mid + m - 1 - c) (fun c => c) false (mid - (mid + m - b)) (mid + m - b) mid s).1 = i at hE hR ⊢
      refine ⟨by omega, by omega, by omega, by omega, fun q1 q2 => ?_, fun q1 q2 => ?_⟩
      · have := hE.1 q2
        rw [show mid + m - 1 - (i - 1) = mid + m - i by omega] at this
        exact this
      · have := hE.2 q2
        rw [show mid + m - 1 - i = mid + m - i - 1 by omega] at this
        simpa using this
    · rw [if_neg c]
      unfold bsr
      have hE := bsL_ends V (fun c => mid + m - 1 - c) (fun c => c) false (m - a) a m s (by omega) (Nat.le_refl _)
      have hR := bsL_range (M := M) (x := fun c => mid + m - 1 - c) (y := fun c => c) (up := false) (m - a) a m s (by omega)
      generalize (bsL M (fun c => mid + m - 1 - c) (fun c => c) false (m - a) a m s).1 = i at hE hR ⊢
      refine ⟨by omega, by omega, by omega, by omega, fun q1 q2 => ?_, fun q1 q2 => ?_⟩
      · have := hE.1 q1
        rw [show mid + m - 1 - (i - 1) = mid + m - i by omega] at this
        exact this
      · have := hE.2 q1
        rw [show mid + m - 1 - i = mid + m - i - 1 by omega] at this
        simpa using this
  generalize (symMStart M a m b s).1 = st at key ⊢
  generalize (symMStart M a m b s).2 = t at hvs ⊢
  obtain ⟨k1, k2, k3, k4, k5, k6⟩ := key
  have sp := symTail_spec S V IH a m b mid st (mid + m - st) t rfl k1 k2 k3 (by omega) (by omega) (by omega) (by omega) hm1 hm2 hf
  rw [hvs] at sp
  refine ⟨sp.1, fun μ hl hr t1 t2 => sp.2 μ hl hr t1 t2 (fun l k q1 q2 q3 q4 => ?_) (fun l k q1 q2 q3 q4 => ?_)⟩
  · have hx := k5 (by omega) (by omega)
    have tl := t1 (st - 1) (by omega) (by omega)
    have tr := t2 (mid + m - st) (by omega) (by omega)
    exact hl.ge S (hr.le S (Bf.of_not (by omega) hx) (by omega) q3 q4) q1 (show l ≤ st - 1 by omega) (by omega)
  · have hx := k6 (by omega) (by omega)
    exact hr.ge S (hl.le S (Bf.of_less hx) (by omega) q1 q2) q3 (show k ≤ mid + m - st - 1 by omega) (by omega)

theorem symM_ok (S : Swo T) (V : View M T v) : ∀ f, MergeOk M T v f
  | 0 => fun a m b s h1 h2 h3 => absurd h3 (by omega)
  | f + 1 => fun a m b s h1 h2 h3 => by
    by_cases c1 : m = a + 1
    · exact symM_one S V f a m b s c1 h2
    · by_cases c2 : b = m + 1
      · exact symM_last S V f a m b s (by omega) c2
      · exact symM_more S V (symM_ok S V f) a m b s (by omega) (by omega) h3

/-! ### Insertion -/
theorem insInner_rot (V : View M T v) (a : Nat) : ∀ (j : Nat) (s : σ), a ≤ j → ∃ p, a ≤ p ∧ p ≤ j ∧ v (insInner M a j s) = rotF p j (j + 1) (v s) ∧ (∀ k, p ≤ k → k < j → T (v s j) (v s k) = true) ∧ (a < p → T (v s j) (v s (p - 1)) = false)
  | 0, s, h => ⟨0, h, Nat.le_refl _, by rw [rotF_right (by omega)]; rfl, fun k q1 q2 => absurd q2 (by omega), fun q => absurd q (by omega)⟩
  | j + 1, s, h => by
    by_cases c : a < j + 1
    · have hin : insInner M a (j + 1) s = if M.less s (j + 1) j = true then insInner M a j (M.swap (M.tick s (j + 1) j) (j + 1) j) else M.tick s (j + 1) j := by
        show (if a < j + 1 then _ else _) = _
        rw [if_pos c]
      rw [hin]
      cases hv : M.less s (j + 1) j
      · rw [if_neg (by simp), V.tick]
        refine ⟨j + 1, by omega, Nat.le_refl _, (rotF_right (by omega)).symm, fun k q1 q2 => absurd q2 (by omega), fun _ => ?_⟩
        rw [V.less] at hv; exact hv
      · rw [if_pos rfl]
        obtain ⟨p, p1, p2, p3, p4, p5⟩ := insInner_rot V a j (M.swap (M.tick s (j + 1) j) (j + 1) j) (by omega)
        rw [V.swap, V.tick] at p3 p4 p5
        rw [V.less] at hv
        have hj : swapF (v s) (j + 1) j j = v s (j + 1) := by unfold swapF; rw [if_neg (by omega), if_pos rfl]
        have hj1 : swapF (v s) (j + 1) j (j + 1) = v s j := by unfold swapF; rw [if_pos rfl]
        have ho : ∀ k, k ≠ j → k ≠ j + 1 → swapF (v s) (j + 1) j k = v s k := fun k q1 q2 => by unfold swapF; rw [if_neg q2, if_neg q1]
        refine ⟨p, p1, by omega, ?_, fun k q1 q2 => ?_, fun q => ?_⟩
        · rw [p3]
          funext x
          rcases Nat.lt_or_ge x p with c1 | c1
          · rw [rotF_out (.inl c1), rotF_out (.inl c1), ho x (by omega) (by omega)]
          · rcases Nat.lt_or_ge x (j + 1) with c2 | c2
            · by_cases c3 : x = p
              · subst c3
                rw [rotF_fst (Nat.le_refl _) (by omega) (by omega) p2, rotF_fst (Nat.le_refl _) (by omega) (by omega) (by omega), show x + (j - x) = j by omega, hj]
                congr 1; omega
              · rw [rotF_snd (by omega) (by omega) (by omega) p2, rotF_snd (by omega) (by omega) (by omega) (by omega), ho _ (by omega) (by omega)]
                congr 1; omega
            · rcases Nat.lt_or_ge x (j + 1 + 1) with c3 | c3
              · obtain rfl : x = j + 1 := by omega
                rw [rotF_out (.inr (by omega)), rotF_snd (by omega) (by omega) (by omega) (by omega), hj1]
                congr 1; omega
              · rw [rotF_out (.inr (by omega)), rotF_out (.inr (by omega)), ho x (by omega) (by omega)]
        · by_cases c1 : k = j
          · subst c1; exact hv
          · have := p4 k q1 (by omega)
            rw [hj, ho k c1 (by omega)] at this; exact this
        · have := p5 q
          rw [hj, ho (p - 1) (by omega) (by omega)] at this; exact this
    · have hin : insInner M a (j + 1) s = s := by
        show (if a < j + 1 then _ else _) = _
        rw [if_neg c]
      rw [hin]
      exact ⟨j + 1, h, Nat.le_refl _, (rotF_right (by omega)).symm, fun k q1 q2 => absurd q2 (by omega), fun q => absurd q c⟩

theorem insInner_ord (S : Swo T) (V : View M T v) (a i : Nat) (s : σ) (h : a ≤ i) : Into a (i + 1) (v s) (v (insInner M a i s)) ∧ (Ord T (v s) a i → (∀ k, a ≤ k → k < i → v s k < v s i) → Ord T (v (insInner M a i s)) a (i + 1)) := by
  obtain ⟨p, p1, p2, p3, p4, p5⟩ := insInner_rot V a i s h
  rw [p3]
  refine ⟨rot_into p1 p2 (by omega) (Nat.le_refl _), fun ho ht => ord_rot p1 p2 (by omega) (Nat.le_refl _) ho (fun x y q1 q2 q3 => absurd q3 (by omega)) (fun l k q1 q2 q3 q4 => ?_) (fun l k q1 q2 q3 q4 => ?_) (fun l k q1 q2 q3 q4 => absurd q4 (by omega))⟩
  · obtain rfl : k = i := by omega
    exact ho.ge S (Bf.of_not (ht (p - 1) (by omega) (by omega)) (p5 (by omega))) q1 (show l ≤ p - 1 by omega) (by omega)
  · obtain rfl : k = i := by omega
    exact Bf.of_less (p4 l q1 q2)
end
end Go.Proofs.Ytkklbnheiganlaa
