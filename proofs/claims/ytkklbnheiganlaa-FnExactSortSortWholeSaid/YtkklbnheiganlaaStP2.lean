/-
  What the stable sort does to a view of the machine's state: second part: merges. No program of Go is named here.
-/
import Derived.Test.YtkklbnheiganlaaStP
namespace Go.Proofs.Ytkklbnheiganlaa
set_option linter.unusedVariables false

/-- A strict weak order of all numbers. -/
structure Swo (T : Nat → Nat → Bool) : Prop where
  irrefl : ∀ i, T i i = false
  trans : ∀ i j k, T i j = true → T j k = true → T i k = true
  pass : ∀ i j k, T j i = false → T k j = false → T k i = false

/-- i comes before j, or is equal and has the lesser number. -/
def Bf (T : Nat → Nat → Bool) (i j : Nat) : Prop := T i j = true ∨ (T j i = false ∧ i < j)

theorem Bf.trans {T : Nat → Nat → Bool} (S : Swo T) {i j k : Nat} (h1 : Bf T i j) (h2 : Bf T j k) : Bf T i k := by
  rcases h1 with h1 | ⟨h1, h1'⟩
  · rcases h2 with h2 | ⟨h2, h2'⟩
    · exact .inl (S.trans i j k h1 h2)
    · refine .inl ?_
      cases h : T i k
      · have := S.pass j k i h2 h
        rw [h1] at this; cases this
      · rfl
  · rcases h2 with h2 | ⟨h2, h2'⟩
    · refine .inl ?_
      cases h : T i k
      · have := S.pass k i j h h1
        rw [h2] at this; cases this
      · rfl
    · exact .inr ⟨S.pass i j k h1 h2, by omega⟩
theorem Bf.ne {T : Nat → Nat → Bool} (S : Swo T) {i : Nat} (h : Bf T i i) : False := by
  rcases h with h | ⟨_, h⟩
  · rw [S.irrefl] at h; cases h
  · exact absurd h (Nat.lt_irrefl _)
theorem Bf.of_less {T : Nat → Nat → Bool} {x y : Nat} (h : T y x = true) : Bf T y x := .inl h
theorem Bf.of_not {T : Nat → Nat → Bool} {x y : Nat} (hxy : x < y) (h : T y x = false) : Bf T x y := .inr ⟨h, hxy⟩
theorem Bf.total {T : Nat → Nat → Bool} {x y : Nat} (h : x ≠ y) : Bf T x y ∨ Bf T y x := by
  rcases Nat.lt_or_gt_of_ne h with h | h
  · cases hT : T y x
    · exact .inl (.of_not h hT)
    · exact .inr (.of_less hT)
  · cases hT : T x y
    · exact .inr (.of_not h hT)
    · exact .inl (.of_less hT)

/-- d is in order between lo and hi. -/
def Ord (T : Nat → Nat → Bool) (d : Nat → Nat) (lo hi : Nat) : Prop := ∀ x y, lo ≤ x → x < y → y < hi → Bf T (d x) (d y)
theorem Ord.sub {T : Nat → Nat → Bool} {d : Nat → Nat} {lo hi lo' hi' : Nat} (h : Ord T d lo hi) (h1 : lo ≤ lo') (h2 : hi' ≤ hi) : Ord T d lo' hi' := fun x y a b c => h x y (by omega) b (by omega)
theorem Ord.le {T : Nat → Nat → Bool} {d : Nat → Nat} {lo hi : Nat} (S : Swo T) (h : Ord T d lo hi) {x y z : Nat} (hz : Bf T z (d x)) (h1 : lo ≤ x) (h2 : x ≤ y) (h3 : y < hi) : Bf T z (d y) := by
  rcases Nat.lt_or_ge x y with h4 | h4
  · exact hz.trans S (h x y h1 h4 h3)
  · obtain rfl : x = y := by omega
    exact hz
theorem Ord.ge {T : Nat → Nat → Bool} {d : Nat → Nat} {lo hi : Nat} (S : Swo T) (h : Ord T d lo hi) {x y z : Nat} (hz : Bf T (d y) z) (h1 : lo ≤ x) (h2 : x ≤ y) (h3 : y < hi) : Bf T (d x) z := by
  rcases Nat.lt_or_ge x y with h4 | h4
  · exact (h x y h1 h4 h3).trans S hz
  · obtain rfl : x = y := by omega
    exact hz

/-- d' has what d has between a and b, and is d elsewhere. -/
def Into (a b : Nat) (d d' : Nat → Nat) : Prop := (∀ k, a ≤ k → k < b → ∃ l, a ≤ l ∧ l < b ∧ d' k = d l) ∧ (∀ k, ¬ (a ≤ k ∧ k < b) → d' k = d k)
theorem Into.refl (a b : Nat) (d : Nat → Nat) : Into a b d d := ⟨fun k h1 h2 => ⟨k, h1, h2, rfl⟩, fun _ _ => rfl⟩
theorem Into.trans {a b : Nat} {d d' d'' : Nat → Nat} (h : Into a b d d') (h' : Into a b d' d'') : Into a b d d'' :=
  ⟨fun k h1 h2 => by
    obtain ⟨l, l1, l2, e⟩ := h'.1 k h1 h2
    obtain ⟨l', l1', l2', e'⟩ := h.1 l l1 l2
    exact ⟨l', l1', l2', e.trans e'⟩, fun k hk => (h'.2 k hk).trans (h.2 k hk)⟩
theorem Into.wide {a b a' b' : Nat} {d d' : Nat → Nat} (h : Into a b d d') (h1 : a' ≤ a) (h2 : b ≤ b') : Into a' b' d d' :=
  ⟨fun k k1 k2 => by
    by_cases hk : a ≤ k ∧ k < b
    · obtain ⟨l, l1, l2, e⟩ := h.1 k hk.1 hk.2
      exact ⟨l, by omega, by omega, e⟩
    · exact ⟨k, k1, k2, h.2 k hk⟩, fun k hk => h.2 k (by omega)⟩

/-! ### Rotations -/
section
variable {lo m hi : Nat} {d : Nat → Nat} {x : Nat}
theorem rotF_out (h : x < lo ∨ hi ≤ x) : rotF lo m hi d x = d x := by unfold rotF; rw [if_pos h]
theorem rotF_fst (h1 : lo ≤ x) (h2 : x < lo + (hi - m)) (h3 : m ≤ hi) (h4 : lo ≤ m) : rotF lo m hi d x = d (x + (m - lo)) := by unfold rotF; rw [if_neg (by omega), if_pos h2]
theorem rotF_snd (h1 : lo + (hi - m) ≤ x) (h2 : x < hi) (h3 : m ≤ hi) (h4 : lo ≤ m) : rotF lo m hi d x = d (x - (hi - m)) := by unfold rotF; rw [if_neg (by omega), if_neg (by omega)]
theorem rotF_left (h4 : lo ≤ m) : rotF lo m m d = d := by
  funext x
  rcases Nat.lt_or_ge x lo with h | h
  · exact rotF_out (.inl h)
  · rcases Nat.lt_or_ge x m with h' | h'
    · rw [rotF_snd (by omega) h' (Nat.le_refl _) h4, Nat.sub_self, Nat.sub_zero]
    · exact rotF_out (.inr h')
theorem rotF_right (h3 : m ≤ hi) : rotF m m hi d = d := by
  funext x
  rcases Nat.lt_or_ge x m with h | h
  · exact rotF_out (.inl h)
  · rcases Nat.lt_or_ge x hi with h' | h'
    · rw [rotF_fst h (by omega) h3 (Nat.le_refl _), Nat.sub_self, Nat.add_zero]
    · exact rotF_out (.inr h')
theorem rot_into {a b : Nat} (h1 : a ≤ lo) (h2 : lo ≤ m) (h3 : m ≤ hi) (h4 : hi ≤ b) : Into a b d (rotF lo m hi d) :=
  ⟨fun k k1 k2 => by
    by_cases c1 : k < lo ∨ hi ≤ k
    · exact ⟨k, k1, k2, rotF_out c1⟩
    · by_cases c2 : k < lo + (hi - m)
      · exact ⟨k + (m - lo), by omega, by omega, rotF_fst (by omega) c2 h3 h2⟩
      · exact ⟨k - (hi - m), by omega, by omega, rotF_snd (by omega) (by omega) h3 h2⟩, fun k hk => rotF_out (by omega)⟩

/-- Two runs in order, of which [lo, m) and [m, hi) change places. -/
theorem ord_rot {T : Nat → Nat → Bool} {a b : Nat} (h1 : a ≤ lo) (h2 : lo ≤ m) (h3 : m ≤ hi) (h4 : hi ≤ b) (hl : Ord T d a m) (hr : Ord T d m b)
    (c1 : ∀ l k, a ≤ l → l < lo → m ≤ k → k < b → Bf T (d l) (d k)) (c2 : ∀ l k, lo ≤ l → l < m → m ≤ k → k < hi → Bf T (d k) (d l)) (c3 : ∀ l k, lo ≤ l → l < m → hi ≤ k → k < b → Bf T (d l) (d k)) :
    Ord T (rotF lo m hi d) a b := by
  intro x y hx hxy hy
  rcases Nat.lt_or_ge x lo with x1 | x1
  · rw [rotF_out (.inl x1)]
    rcases Nat.lt_or_ge y lo with y1 | y1
    · rw [rotF_out (.inl y1)]; exact hl x y hx hxy (by omega)
    · rcases Nat.lt_or_ge y hi with y2 | y2
      · rcases Nat.lt_or_ge y (lo + (hi - m)) with y3 | y3
        · rw [rotF_fst y1 y3 h3 h2]; exact c1 _ _ hx x1 (by omega) (by omega)
        · rw [rotF_snd y3 y2 h3 h2]; exact hl _ _ hx (by omega) (by omega)
      · rw [rotF_out (.inr y2)]; exact c1 _ _ hx x1 (by omega) (by omega)
  · rcases Nat.lt_or_ge x hi with x2 | x2
    · rcases Nat.lt_or_ge x (lo + (hi - m)) with x3 | x3
      · rw [rotF_fst x1 x3 h3 h2]
        rcases Nat.lt_or_ge y hi with y2 | y2
        · rcases Nat.lt_or_ge y (lo + (hi - m)) with y3 | y3
          · rw [rotF_fst (by omega) y3 h3 h2]; exact hr _ _ (by omega) (by omega) (by omega)
          · rw [rotF_snd y3 y2 h3 h2]; exact c2 _ _ (by omega) (by omega) (by omega) (by omega)
        · rw [rotF_out (.inr y2)]; exact hr _ _ (by omega) (by omega) (by omega)
      · rw [rotF_snd x3 x2 h3 h2]
        rcases Nat.lt_or_ge y hi with y2 | y2
        · rw [rotF_snd (by omega) y2 h3 h2]; exact hl _ _ (by omega) (by omega) (by omega)
        · rw [rotF_out (.inr y2)]; exact c3 _ _ (by omega) (by omega) y2 hy
    · rw [rotF_out (.inr x2), rotF_out (.inr (by omega))]; exact hr _ _ (by omega) hxy hy
end

/-! ### symMerge -/
section
variable {σ : Type} {M : Mach σ} {T : Nat → Nat → Bool} {v : σ → Nat → Nat}

/-- What a merge does: two runs in order, the left one of lesser numbers, become one. -/
def Merges (T : Nat → Nat → Bool) (a m b : Nat) (d d' : Nat → Nat) : Prop :=
  ∀ μ, Ord T d a m → Ord T d m b → (∀ k, a ≤ k → k < m → d k < μ) → (∀ k, m ≤ k → k < b → μ ≤ d k) → Ord T d' a b

theorem symM_one (S : Swo T) (V : View M T v) (f a m b : Nat) (s : σ) (h1 : m = a + 1) (h2 : m < b) : Into a b (v s) (v (symM M (f + 1) a m b s)) ∧ Merges T a m b (v s) (v (symM M (f + 1) a m b s)) := by
  subst h1
  have hsy : symM M (f + 1) a (a + 1) b s = swapR M a (a + 1) ((bsr M (fun h => h) (fun _ => a) true (a + 1) b s).1 - 1 - a) 0 (bsr M (fun h => h) (fun _ => a) true (a + 1) b s).2 := by
    show (if a + 1 - a = 1 then _ else _) = _
    rw [if_pos (by omega)]
  have hE := bsL_ends V (fun h => h) (fun _ => a) true (b - (a + 1)) (a + 1) b s (by omega) (Nat.le_refl _)
  have hR := bsL_range (M := M) (x := fun h => h) (y := fun _ => a) (up := true) (b - (a + 1)) (a + 1) b s (by omega)
  rw [hsy, v_swapAdj V]
  unfold bsr
  rw [v_bsL V]
  generalize (bsL M (fun h => h) (fun _ => a) true (b - (a + 1)) (a + 1) b s).1 = i at hE hR
  rw [show a + 0 + 1 + (i - 1 - a) = i by omega, Nat.add_zero]
  refine ⟨rot_into (Nat.le_refl _) (by omega) (by omega) (by omega), fun μ hl hr t1 t2 => ord_rot (Nat.le_refl _) (by omega) (by omega) (by omega) hl hr (fun l k a1 a2 => absurd a2 (by omega)) (fun l k a1 a2 a3 a4 => ?_) (fun l k a1 a2 a3 a4 => ?_)⟩
  · obtain rfl : l = a := by omega
    exact hr.ge S (Bf.of_less (hE.1 (by omega))) (by omega) (show k ≤ i - 1 by omega) (by omega)
  · obtain rfl : l = a := by omega
    refine hr.le S (Bf.of_not ?_ (by simpa using hE.2 (by omega))) (by omega) a3 a4
    have := t1 l (by omega) (by omega)
    have := t2 i (by omega) (by omega)
    omega

theorem symM_last (S : Swo T) (V : View M T v) (f a m b : Nat) (s : σ) (h1 : a + 1 < m) (h2 : b = m + 1) : Into a b (v s) (v (symM M (f + 1) a m b s)) ∧ Merges T a m b (v s) (v (symM M (f + 1) a m b s)) := by
  subst h2
  have hsy : symM M (f + 1) a m (m + 1) s = swapDn M (m - (bsr M (fun _ => m) (fun h => h) false a m s).1) m (bsr M (fun _ => m) (fun h => h) false a m s).2 := by
    show (if m - a = 1 then _ else if m + 1 - m = 1 then _ else _) = _
    rw [if_neg (by omega), if_pos (by omega)]
  have hE := bsL_ends V (fun _ => m) (fun h => h) false (m - a) a m s (by omega) (Nat.le_refl _)
  have hR := bsL_range (M := M) (x := fun _ => m) (y := fun h => h) (up := false) (m - a) a m s (by omega)
  rw [hsy, v_swapDn V _ _ _ (Nat.sub_le _ _)]
  unfold bsr
  rw [v_bsL V]
  generalize (bsL M (fun _ => m) (fun h => h) false (m - a) a m s).1 = i at hE hR
  rw [show m - (m - i) = i by omega]
  refine ⟨rot_into (by omega) (by omega) (by omega) (Nat.le_refl _), fun μ hl hr t1 t2 => ord_rot (by omega) (by omega) (by omega) (Nat.le_refl _) hl hr (fun l k a1 a2 a3 a4 => ?_) (fun l k a1 a2 a3 a4 => ?_) (fun l k a1 a2 a3 a4 => absurd a4 (by omega))⟩
  · obtain rfl : k = m := by omega
    refine hl.ge S (Bf.of_not ?_ (hE.1 (by omega))) a1 (show l ≤ i - 1 by omega) (by omega)
    have := t1 (i - 1) (by omega) (by omega)
    have := t2 k (by omega) (by omega)
    omega
  · obtain rfl : k = m := by omega
    exact hl.le S (Bf.of_less (by simpa using hE.2 (by omega))) (by omega) a1 a2
end
end Go.Proofs.Ytkklbnheiganlaa
