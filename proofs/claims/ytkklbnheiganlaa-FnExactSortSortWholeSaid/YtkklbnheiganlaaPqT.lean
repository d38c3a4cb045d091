/-
  Ways of a machine: so many questions and swaps of places below n lead from one state to another. What the pdqsort of PqM does is such a way. No program of Go is named here.
-/
import Derived.Test.YtkklbnheiganlaaPqM
import Derived.Test.YtkklbnheiganlaaStK
import Derived.Test.YtkklbnheiganlaaStQ
namespace Go.Proofs.Ytkklbnheiganlaa
set_option linter.unusedVariables false

/-- From s to t by at most k questions and swaps of places below n. -/
inductive Way {σ : Type} (M : Mach σ) (n : Nat) : Nat → σ → σ → Prop
  | nil (k : Nat) (s : σ) : Way M n k s s
  | tick (k : Nat) (s t : σ) (i j : Nat) : i < n → j < n → Way M n k (M.tick s i j) t → Way M n (k + 1) s t
  | swap (k : Nat) (s t : σ) (i j : Nat) : i < n → j < n → Way M n k (M.swap s i j) t → Way M n (k + 1) s t

section
variable {σ : Type} {M : Mach σ} {n : Nat}
theorem Way.keep {K : σ → Prop} (G : Keeps M n K) {k : Nat} {s t : σ} (h : Way M n k s t) : K s → K t := by
  induction h with
  | nil => exact id
  | tick k s t i j hi hj _ ih => exact fun hs => ih (G.tick s i j hi hj hs)
  | swap k s t i j hi hj _ ih => exact fun hs => ih (G.swap s i j hi hj hs)
theorem Way.cost {c : σ → Nat} (G : Costs M c) {k : Nat} {s t : σ} (h : Way M n k s t) : c t ≤ c s + k := by
  induction h with
  | nil k s => exact Nat.le_add_right _ _
  | tick k s t i j _ _ _ ih => have := G.tick s i j; omega
  | swap k s t i j _ _ _ ih => have := G.swap s i j; omega
theorem Way.ok {ok : σ → Prop} (G : Guard M ok) {k : Nat} {s t : σ} (h : Way M n k s t) : ok t → ok s := by
  induction h with
  | nil => exact id
  | tick k s t i j _ _ _ ih => exact fun ht => G.tick s i j (ih ht)
  | swap k s t i j _ _ _ ih => exact fun ht => G.swap s i j (ih ht)
theorem Way.mono {k k' : Nat} {s t : σ} (h : Way M n k s t) (hk : k ≤ k') : Way M n k' s t := by
  induction h generalizing k' with
  | nil => exact .nil _ _
  | tick k s t i j hi hj _ ih =>
    obtain ⟨q, rfl⟩ : ∃ q, k' = q + 1 := ⟨k' - 1, by omega⟩
    exact .tick _ _ _ i j hi hj (ih (by omega))
  | swap k s t i j hi hj _ ih =>
    obtain ⟨q, rfl⟩ : ∃ q, k' = q + 1 := ⟨k' - 1, by omega⟩
    exact .swap _ _ _ i j hi hj (ih (by omega))
theorem Way.trans {k k' : Nat} {s t u : σ} (h : Way M n k s t) (h' : Way M n k' t u) : Way M n (k + k') s u := by
  induction h with
  | nil k s => exact h'.mono (by omega)
  | tick k s t i j hi hj _ ih => exact (Way.tick _ _ _ i j hi hj (ih h')).mono (by omega)
  | swap k s t i j hi hj _ ih => exact (Way.swap _ _ _ i j hi hj (ih h')).mono (by omega)
theorem Way.tick1 (s : σ) {i j : Nat} (hi : i < n) (hj : j < n) : Way M n 1 s (M.tick s i j) := .tick 0 _ _ i j hi hj (.nil _ _)
theorem Way.swap1 (s : σ) {i j : Nat} (hi : i < n) (hj : j < n) : Way M n 1 s (M.swap s i j) := .swap 0 _ _ i j hi hj (.nil _ _)
/-- question, then swap -/
theorem Way.both (s : σ) {i j : Nat} (hi : i < n) (hj : j < n) : Way M n 2 s (M.swap (M.tick s i j) i j) := (Way.tick1 s hi hj).trans (Way.swap1 _ hi hj)

theorem way_insInner (a : Nat) : ∀ (j : Nat) (s : σ), j < n → Way M n (2 * (j - a)) s (insInner M a j s)
  | 0, s, _ => .nil _ _
  | j + 1, s, hj => by
    unfold insInner
    split
    · split
      · exact ((Way.both s hj (by omega)).trans (way_insInner a j _ (by omega))).mono (by omega)
      · exact (Way.tick1 s hj (by omega)).mono (by omega)
    · exact .nil _ _
theorem way_insOuter (a : Nat) : ∀ (k i : Nat) (s : σ), i + k ≤ n → Way M n (k * (2 * (i + k - a))) s (insOuter M a k i s)
  | 0, _, s, _ => .nil _ _
  | k + 1, i, s, h => by
    refine ((way_insInner a i s (by omega)).trans (way_insOuter a k (i + 1) _ (by omega))).mono ?_
    rw [show i + 1 + k - a = i + (k + 1) - a by omega]
    have h3 : (k + 1) * (2 * (i + (k + 1) - a)) = k * (2 * (i + (k + 1) - a)) + 2 * (i + (k + 1) - a) := Nat.succ_mul _ _
    omega
theorem way_insSort (a b : Nat) (s : σ) (hb : b ≤ n) : Way M n ((b - a - 1) * (2 * (b - a))) s (insSort M a b s) := by
  unfold insSort
  rcases Nat.lt_or_ge a b with h1 | h1
  · have h := way_insOuter (M := M) (n := n) a (b - (a + 1)) (a + 1) s (by omega)
    rw [show a + 1 + (b - (a + 1)) - a = b - a by omega] at h
    exact h.mono (by rw [show b - (a + 1) = b - a - 1 by omega]; exact Nat.le_refl _)
  · rw [show b - (a + 1) = 0 by omega]; exact .nil _ _

theorem way_siftD (hi first : Nat) (hf : first + hi ≤ n) : ∀ (f root : Nat) (s : σ), root < hi → Way M n (3 * f) s (siftD M hi first f root s)
  | 0, _, s, _ => .nil _ _
  | f + 1, root, s, hr => by
    unfold siftD
    split
    · exact .nil _ _
    · split
      · split
        · dsimp only
          split
          · exact (((Way.tick1 s (by omega) (by omega)).trans (Way.both _ (by omega) (by omega))).trans (way_siftD hi first hf f _ _ (by omega))).mono (by omega)
          · exact ((Way.tick1 s (by omega) (by omega)).trans (Way.tick1 _ (by omega) (by omega))).mono (by omega)
        · dsimp only
          split
          · exact (((Way.tick1 s (by omega) (by omega)).trans (Way.both _ (by omega) (by omega))).trans (way_siftD hi first hf f _ _ (by omega))).mono (by omega)
          · exact ((Way.tick1 s (by omega) (by omega)).trans (Way.tick1 _ (by omega) (by omega))).mono (by omega)
      · split
        · exact ((Way.both s (by omega) (by omega)).trans (way_siftD hi first hf f _ _ (by omega))).mono (by omega)
        · exact (Way.tick1 s (by omega) (by omega)).mono (by omega)
theorem siftD_none (hi first f root : Nat) (s : σ) (h : hi ≤ 2 * root + 1) : siftD M hi first f root s = s := by
  cases f with
  | zero => rfl
  | succ f => unfold siftD; rw [if_pos h]
theorem way_siftD' (hi first : Nat) (hf : first + hi ≤ n) (f root : Nat) (s : σ) : Way M n (3 * f) s (siftD M hi first f root s) := by
  rcases Nat.lt_or_ge root hi with h | h
  · exact way_siftD hi first hf f root s h
  · rw [siftD_none hi first f root s (by omega)]; exact .nil _ _
theorem way_heapB (hi first : Nat) (hf : first + hi ≤ n) : ∀ (k : Nat) (s : σ), Way M n (k * (3 * hi)) s (heapB M hi first k s)
  | 0, s => .nil _ _
  | k + 1, s => by
    refine ((way_siftD' hi first hf hi k s).trans (way_heapB hi first hf k _)).mono ?_
    have h3 : (k + 1) * (3 * hi) = k * (3 * hi) + 3 * hi := Nat.succ_mul _ _
    omega
theorem way_heapP (first m : Nat) (hf : first + m ≤ n) : ∀ (k : Nat) (s : σ), k ≤ m → Way M n (k * (3 * m + 1)) s (heapP M first k s)
  | 0, s, _ => .nil _ _
  | k + 1, s, hk => by
    refine (((Way.swap1 s (by omega) (by omega)).trans (way_siftD' k first (by omega) k 0 _)).trans (way_heapP first m hf k _ (by omega))).mono ?_
    have h3 : (k + 1) * (3 * m + 1) = k * (3 * m + 1) + (3 * m + 1) := Nat.succ_mul _ _
    omega
theorem way_heapS (a b : Nat) (s : σ) (ha : a ≤ b) (hb : b ≤ n) : Way M n (((b - a - 1) / 2 + 1) * (3 * (b - a)) + (b - a) * (3 * (b - a) + 1)) s (heapS M a b s) :=
  (way_heapB (b - a) a (by omega) _ s).trans (way_heapP a (b - a) (by omega) (b - a) _ (Nat.le_refl _))

theorem way_scanU (x y : Nat → Nat) (up : Bool) (hi lo : Nat) (hx : ∀ i, lo ≤ i → i < hi → x i < n ∧ y i < n) : ∀ (f i : Nat) (s : σ), lo ≤ i → Way M n ((scanU M x y up hi f i s).1 - i + 1) s (scanU M x y up hi f i s).2 ∧ i ≤ (scanU M x y up hi f i s).1 ∧ ((scanU M x y up hi f i s).1 ≤ hi ∨ (scanU M x y up hi f i s).1 = i)
  | 0, i, s, _ => ⟨.nil _ _, Nat.le_refl _, .inr rfl⟩
  | f + 1, i, s, hl => by
    unfold scanU
    split
    · rename_i hlt
      have hr := hx i hl hlt
      split
      · have ih := way_scanU x y up hi lo hx f (i + 1) (M.tick s (x i) (y i)) (by omega)
        exact ⟨((Way.tick1 s hr.1 hr.2).trans ih.1).mono (by omega), by omega, by omega⟩
      · exact ⟨(Way.tick1 s hr.1 hr.2).mono (by omega), Nat.le_refl _, .inr rfl⟩
    · exact ⟨.nil _ _, Nat.le_refl _, .inr rfl⟩
theorem way_scanD (x y : Nat → Nat) (up : Bool) (lo hi : Nat) (hx : ∀ j, lo ≤ j → j ≤ hi → x j < n ∧ y j < n) : ∀ (j : Nat) (s : σ), j ≤ hi → Way M n (j - (scanD M x y up lo j s).1 + 1) s (scanD M x y up lo j s).2 ∧ (scanD M x y up lo j s).1 ≤ j ∧ (lo ≤ (scanD M x y up lo j s).1 + 1 ∨ (scanD M x y up lo j s).1 = j)
  | 0, s, _ => ⟨.nil _ _, Nat.le_refl _, .inr rfl⟩
  | j + 1, s, hj => by
    unfold scanD
    split
    · rename_i hle
      have hr := hx (j + 1) hle hj
      split
      · have ih := way_scanD x y up lo hi hx j (M.tick s (x (j + 1)) (y (j + 1))) (by omega)
        exact ⟨((Way.tick1 s hr.1 hr.2).trans ih.1).mono (by omega), by omega, by omega⟩
      · exact ⟨(Way.tick1 s hr.1 hr.2).mono (by omega), Nat.le_refl _, .inr rfl⟩
    · exact ⟨.nil _ _, Nat.le_refl _, .inr rfl⟩

/-- the first and the second scan of a partition's loop -/
def parU (M : Mach σ) (a : Nat) (e : Bool) (i j : Nat) (s : σ) : Nat × σ := if e then scanU M (fun _ => a) (fun i => i) false (j + 1) (j + 1 - i) i s else scanU M (fun i => i) (fun _ => a) true (j + 1) (j + 1 - i) i s
def parD (M : Mach σ) (a : Nat) (e : Bool) (i j : Nat) (s : σ) : Nat × σ := if e then scanD M (fun _ => a) (fun j => j) true i j s else scanD M (fun j => j) (fun _ => a) false i j s
theorem partL_eq (a : Nat) (e : Bool) (f i j : Nat) (s : σ) : partL M a e (f + 1) i j s = (if (parD M a e (parU M a e i j s).1 j (parU M a e i j s).2).1 < (parU M a e i j s).1 then ((parU M a e i j s).1, (parD M a e (parU M a e i j s).1 j (parU M a e i j s).2).1, (parD M a e (parU M a e i j s).1 j (parU M a e i j s).2).2) else partL M a e f ((parU M a e i j s).1 + 1) ((parD M a e (parU M a e i j s).1 j (parU M a e i j s).2).1 - 1) (M.swap (parD M a e (parU M a e i j s).1 j (parU M a e i j s).2).2 (parU M a e i j s).1 (parD M a e (parU M a e i j s).1 j (parU M a e i j s).2).1)) := rfl
theorem way_parU (a : Nat) (e : Bool) (i j : Nat) (s : σ) (ha : a < n) (hj : j < n) : Way M n ((parU M a e i j s).1 - i + 1) s (parU M a e i j s).2 ∧ i ≤ (parU M a e i j s).1 ∧ ((parU M a e i j s).1 ≤ j + 1 ∨ (parU M a e i j s).1 = i) := by
  unfold parU
  cases e
  · exact way_scanU (fun i => i) (fun _ => a) true (j + 1) i (fun k _ hk => ⟨by omega, ha⟩) _ i s (Nat.le_refl _)
  · exact way_scanU (fun _ => a) (fun i => i) false (j + 1) i (fun k _ hk => ⟨ha, by omega⟩) _ i s (Nat.le_refl _)
theorem way_parD (a : Nat) (e : Bool) (i j : Nat) (s : σ) (ha : a < n) (hj : j < n) : Way M n (j - (parD M a e i j s).1 + 1) s (parD M a e i j s).2 ∧ (parD M a e i j s).1 ≤ j ∧ (i ≤ (parD M a e i j s).1 + 1 ∨ (parD M a e i j s).1 = j) := by
  unfold parD
  cases e
  · exact way_scanD (fun j => j) (fun _ => a) false i j (fun k _ hk => ⟨by omega, ha⟩) j s (Nat.le_refl _)
  · exact way_scanD (fun _ => a) (fun j => j) true i j (fun k _ hk => ⟨ha, by omega⟩) j s (Nat.le_refl _)
theorem way_partL (a b : Nat) (e : Bool) (hb : b ≤ n) : ∀ (f i j : Nat) (s : σ), a + 1 ≤ i → i ≤ j + 2 → i ≤ b → a ≤ j → j < b →
    Way M n (2 * (j + 2 - i) + 2) s (partL M a e f i j s).2.2 ∧ i ≤ (partL M a e f i j s).1 ∧ (partL M a e f i j s).1 ≤ b ∧ a ≤ (partL M a e f i j s).2.1 ∧ (partL M a e f i j s).2.1 < b
  | 0, i, j, s, h1, h2, h3, h4, h5 => ⟨.nil _ _, Nat.le_refl _, h3, h4, h5⟩
  | f + 1, i, j, s, h1, h2, h3, h4, h5 => by
    rw [partL_eq]
    have w1 := way_parU (M := M) (n := n) a e i j s (by omega) (by omega)
    generalize parU M a e i j s = r1 at *
    have w2 := way_parD (M := M) (n := n) a e r1.1 j r1.2 (by omega) (by omega)
    generalize parD M a e r1.1 j r1.2 = r2 at *
    split
    · exact ⟨(w1.1.trans w2.1).mono (by omega), by dsimp only; omega, by dsimp only; omega, by dsimp only; omega, by dsimp only; omega⟩
    · have ih := way_partL a b e hb f (r1.1 + 1) (r2.1 - 1) (M.swap r2.2 r1.1 r2.1) (by omega) (by omega) (by omega) (by omega) (by omega)
      exact ⟨(((w1.1.trans w2.1).trans (Way.swap1 _ (by omega) (by omega))).trans ih.1).mono (by omega), by omega, ih.2.2.1, ih.2.2.2.1, ih.2.2.2.2⟩

theorem way_partEq (a b pivot : Nat) (s : σ) (hap : a ≤ pivot) (hpb : pivot < b) (hb : b ≤ n) : Way M n (2 * (b - a) + 3) s (partEq M a b pivot s).2 ∧ a < (partEq M a b pivot s).1 ∧ (partEq M a b pivot s).1 ≤ b := by
  have h := way_partL (M := M) (n := n) a b true hb (b - a) (a + 1) (b - 1) (M.swap s a pivot) (Nat.le_refl _) (by omega) (by omega) (by omega) (by omega)
  exact ⟨((Way.swap1 s (by omega) (by omega)).trans h.1).mono (by omega), h.2.1, h.2.2.1⟩

theorem partit_eq (a b pivot : Nat) (hab : a < b) (s : σ) : partit M a b pivot s =
    (if (parD M a false (parU M a false (a + 1) (b - 1) (M.swap s a pivot)).1 (b - 1) (parU M a false (a + 1) (b - 1) (M.swap s a pivot)).2).1 < (parU M a false (a + 1) (b - 1) (M.swap s a pivot)).1 then
      ((parD M a false (parU M a false (a + 1) (b - 1) (M.swap s a pivot)).1 (b - 1) (parU M a false (a + 1) (b - 1) (M.swap s a pivot)).2).1, true, M.swap (parD M a false (parU M a false (a + 1) (b - 1) (M.swap s a pivot)).1 (b - 1) (parU M a false (a + 1) (b - 1) (M.swap s a pivot)).2).2 (parD M a false (parU M a false (a + 1) (b - 1) (M.swap s a pivot)).1 (b - 1) (parU M a false (a + 1) (b - 1) (M.swap s a pivot)).2).1 a)
    else
      ((partL M a false (b - a + 1) (a + 1) (b - 1) (M.swap s a pivot)).2.1, false, M.swap (partL M a false (b - a + 1) (a + 1) (b - 1) (M.swap s a pivot)).2.2 (partL M a false (b - a + 1) (a + 1) (b - 1) (M.swap s a pivot)).2.1 a)) := by
  rw [partL_eq]
  unfold partit
  have e1 : b - 1 + 1 = b := by omega
  have e2 : parU M a false (a + 1) (b - 1) (M.swap s a pivot) = scanU M (fun i => i) (fun _ => a) true b (b - (a + 1)) (a + 1) (M.swap s a pivot) := by unfold parU; rw [e1]; rfl
  rw [e2]
  generalize scanU M (fun i => i) (fun _ => a) true b (b - (a + 1)) (a + 1) (M.swap s a pivot) = r1
  have e3 : parD M a false r1.1 (b - 1) r1.2 = scanD M (fun j => j) (fun _ => a) false r1.1 (b - 1) r1.2 := rfl
  rw [e3]
  dsimp only
  generalize scanD M (fun j => j) (fun _ => a) false r1.1 (b - 1) r1.2 = r2
  by_cases h : r2.1 < r1.1
  · rw [if_pos h, if_pos h]
  · rw [if_neg h, if_neg h, if_neg h]
theorem way_partit (a b pivot : Nat) (s : σ) (hap : a ≤ pivot) (hpb : pivot < b) (hb : b ≤ n) : Way M n (2 * (b - a) + 4) s (partit M a b pivot s).2.2 ∧ a ≤ (partit M a b pivot s).1 ∧ (partit M a b pivot s).1 < b := by
  rw [partit_eq _ _ _ (by omega)]
  have w0 : Way M n 1 s (M.swap s a pivot) := Way.swap1 s (by omega) (by omega)
  split
  · have w1 := way_parU (M := M) (n := n) a false (a + 1) (b - 1) (M.swap s a pivot) (by omega) (by omega)
    generalize parU M a false (a + 1) (b - 1) (M.swap s a pivot) = r1 at *
    have w2 := way_parD (M := M) (n := n) a false r1.1 (b - 1) r1.2 (by omega) (by omega)
    generalize parD M a false r1.1 (b - 1) r1.2 = r2 at *
    exact ⟨(((w0.trans w1.1).trans w2.1).trans (Way.swap1 _ (by omega) (by omega))).mono (by omega), by dsimp only; omega, by dsimp only; omega⟩
  · have h := way_partL (M := M) (n := n) a b false hb (b - a + 1) (a + 1) (b - 1) (M.swap s a pivot) (Nat.le_refl _) (by omega) (by omega) (by omega) (by omega)
    generalize partL M a false (b - a + 1) (a + 1) (b - 1) (M.swap s a pivot) = r at *
    exact ⟨((w0.trans h.1).trans (Way.swap1 _ (by omega) (by omega))).mono (by omega), h.2.2.2.1, h.2.2.2.2⟩

theorem way_shiftU (b : Nat) (hb : b ≤ n) : ∀ (f j : Nat) (s : σ), Way M n (2 * f) s (shiftU M b f j s)
  | 0, _, s => .nil _ _
  | f + 1, j, s => by
    unfold shiftU
    split
    · split
      · exact ((Way.both s (by omega) (by omega)).trans (way_shiftU b hb f (j + 1) _)).mono (by omega)
      · exact (Way.tick1 s (by omega) (by omega)).mono (by omega)
    · exact .nil _ _

/-- one step of partialInsertionSort behind its scan -/
def partIS (M : Mach σ) (a b i : Nat) (s : σ) : σ :=
  let s1 := M.swap s i (i - 1)
  let s2 := if 2 ≤ i - a then insInner M 0 (i - 1) s1 else s1
  if 2 ≤ b - i then shiftU M b (b - (i + 1)) (i + 1) s2 else s2
theorem way_partIS (a b i : Nat) (s : σ) (hi : i < b) (h1 : 1 ≤ i) (hb : b ≤ n) : Way M n (2 * b) s (partIS M a b i s) := by
  unfold partIS
  dsimp only
  have w1 : Way M n 1 s (M.swap s i (i - 1)) := Way.swap1 s (by omega) (by omega)
  generalize M.swap s i (i - 1) = s1 at *
  have w2 : Way M n (2 * (i - 1)) s1 (if 2 ≤ i - a then insInner M 0 (i - 1) s1 else s1) := by
    split
    · exact (way_insInner 0 (i - 1) s1 (by omega)).mono (by omega)
    · exact .nil _ _
  generalize (if 2 ≤ i - a then insInner M 0 (i - 1) s1 else s1) = s2 at *
  have w3 : Way M n (2 * (b - (i + 1))) s2 (if 2 ≤ b - i then shiftU M b (b - (i + 1)) (i + 1) s2 else s2) := by
    split
    · exact way_shiftU b hb _ _ _
    · exact .nil _ _
  exact ((w1.trans w2).trans w3).mono (by omega)
theorem partI_eq (a b k i : Nat) (s : σ) : partI M a b (k + 1) i s =
    (if (scanU M (fun i => i) (fun i => i - 1) false b (b - i) i s).1 = b then (true, (scanU M (fun i => i) (fun i => i - 1) false b (b - i) i s).2)
     else if b - a < 50 then (false, (scanU M (fun i => i) (fun i => i - 1) false b (b - i) i s).2)
     else partI M a b k (scanU M (fun i => i) (fun i => i - 1) false b (b - i) i s).1 (partIS M a b (scanU M (fun i => i) (fun i => i - 1) false b (b - i) i s).1 (scanU M (fun i => i) (fun i => i - 1) false b (b - i) i s).2)) := rfl
theorem way_partI (a b : Nat) (hb : b ≤ n) : ∀ (k i : Nat) (s : σ), 1 ≤ i → i ≤ b → Way M n (k * (2 * b + 1) + (b - i)) s (partI M a b k i s).2
  | 0, _, s, _, _ => .nil _ _
  | k + 1, i, s, h1, h2 => by
    rw [partI_eq]
    have w1 := way_scanU (M := M) (n := n) (fun i => i) (fun i => i - 1) false b i (fun k _ hk => ⟨by omega, by omega⟩) (b - i) i s (Nat.le_refl _)
    generalize scanU M (fun i => i) (fun i => i - 1) false b (b - i) i s = r at *
    have h3 : (k + 1) * (2 * b + 1) = k * (2 * b + 1) + (2 * b + 1) := Nat.succ_mul _ _
    split
    · exact w1.1.mono (by omega)
    · split
      · exact w1.1.mono (by omega)
      · exact ((w1.1.trans (way_partIS a b r.1 r.2 (by omega) (by omega) hb)).trans (way_partI a b hb k r.1 _ (by omega) (by omega))).mono (by omega)

theorem way_ord2 (a b sw : Nat) (s : σ) (ha : a < n) (hb : b < n) : Way M n 1 s (ord2 M a b sw s).2.2.2 ∧ (((ord2 M a b sw s).1 = a ∧ (ord2 M a b sw s).2.1 = b) ∨ ((ord2 M a b sw s).1 = b ∧ (ord2 M a b sw s).2.1 = a)) ∧ (ord2 M a b sw s).2.2.1 ≤ sw + 1 := by
  unfold ord2
  split
  · exact ⟨Way.tick1 s hb ha, .inr ⟨rfl, rfl⟩, Nat.le_refl _⟩
  · exact ⟨Way.tick1 s hb ha, .inl ⟨rfl, rfl⟩, Nat.le_succ _⟩
theorem way_med (a b c sw : Nat) (s : σ) (ha : a < n) (hb : b < n) (hc : c < n) : Way M n 3 s (med M a b c sw s).2.2 ∧ ((med M a b c sw s).1 = a ∨ (med M a b c sw s).1 = b ∨ (med M a b c sw s).1 = c) ∧ (med M a b c sw s).2.1 ≤ sw + 3 := by
  unfold med
  dsimp only
  have w1 := way_ord2 (M := M) (n := n) a b sw s ha hb
  generalize ord2 M a b sw s = r1 at *
  have w2 := way_ord2 (M := M) (n := n) r1.2.1 c r1.2.2.1 r1.2.2.2 (by omega) hc
  generalize ord2 M r1.2.1 c r1.2.2.1 r1.2.2.2 = r2 at *
  have w3 := way_ord2 (M := M) (n := n) r1.1 r2.1 r2.2.2.1 r2.2.2.2 (by omega) (by omega)
  generalize ord2 M r1.1 r2.1 r2.2.2.1 r2.2.2.2 = r3 at *
  exact ⟨((w1.1.trans w2.1).trans w3.1).mono (by omega), by omega, by omega⟩
theorem way_chooseP (a b : Nat) (s : σ) (hab : a < b) (hb : b ≤ n) : Way M n 12 s (chooseP M a b s).2.2 ∧ a ≤ (chooseP M a b s).1 ∧ (chooseP M a b s).1 < b := by
  unfold chooseP
  dsimp only
  split
  · split
    · unfold medAdj
      have w1 := way_med (M := M) (n := n) (a + (b - a) / 4 * 1 - 1) (a + (b - a) / 4 * 1) (a + (b - a) / 4 * 1 + 1) 0 s (by omega) (by omega) (by omega)
      generalize med M (a + (b - a) / 4 * 1 - 1) (a + (b - a) / 4 * 1) (a + (b - a) / 4 * 1 + 1) 0 s = r1 at *
      have w2 := way_med (M := M) (n := n) (a + (b - a) / 4 * 2 - 1) (a + (b - a) / 4 * 2) (a + (b - a) / 4 * 2 + 1) r1.2.1 r1.2.2 (by omega) (by omega) (by omega)
      generalize med M (a + (b - a) / 4 * 2 - 1) (a + (b - a) / 4 * 2) (a + (b - a) / 4 * 2 + 1) r1.2.1 r1.2.2 = r2 at *
      have w3 := way_med (M := M) (n := n) (a + (b - a) / 4 * 3 - 1) (a + (b - a) / 4 * 3) (a + (b - a) / 4 * 3 + 1) r2.2.1 r2.2.2 (by omega) (by omega) (by omega)
      generalize med M (a + (b - a) / 4 * 3 - 1) (a + (b - a) / 4 * 3) (a + (b - a) / 4 * 3 + 1) r2.2.1 r2.2.2 = r3 at *
      have w4 := way_med (M := M) (n := n) r1.1 r2.1 r3.1 r3.2.1 r3.2.2 (by omega) (by omega) (by omega)
      generalize med M r1.1 r2.1 r3.1 r3.2.1 r3.2.2 = r4 at *
      exact ⟨(((w1.1.trans w2.1).trans w3.1).trans w4.1).mono (by omega), by omega, by omega⟩
    · have w1 := way_med (M := M) (n := n) (a + (b - a) / 4 * 1) (a + (b - a) / 4 * 2) (a + (b - a) / 4 * 3) 0 s (by omega) (by omega) (by omega)
      generalize med M (a + (b - a) / 4 * 1) (a + (b - a) / 4 * 2) (a + (b - a) / 4 * 3) 0 s = r1 at *
      exact ⟨w1.1.mono (by omega), by omega, by omega⟩
  · exact ⟨.nil _ _, by dsimp only; omega, by dsimp only; omega⟩
theorem way_revL : ∀ (f i j : Nat) (s : σ), j < n → Way M n (j + 1 - i) s (revL M f i j s)
  | 0, _, _, s, _ => .nil _ _
  | f + 1, i, j, s, hj => by
    unfold revL
    split
    · exact ((Way.swap1 s (by omega) hj).trans (way_revL f (i + 1) (j - 1) _ (by omega))).mono (by omega)
    · exact .nil _ _
theorem way_revR (a b : Nat) (s : σ) (hab : a < b) (hb : b ≤ n) : Way M n (b - a) s (revR M a b s) := (way_revL (b - a) a (b - 1) s (by omega)).mono (by omega)
/-- what is asked of the random numbers -/
def OthOk (oth : Nat → Nat → Nat) : Prop := ∀ l k, 8 ≤ l → oth l k < l
theorem way_breakP {oth : Nat → Nat → Nat} (ho : OthOk oth) (a b : Nat) (s : σ) (hb : b ≤ n) : Way M n 3 s (breakP M oth a b s) := by
  unfold breakP
  split
  · rename_i h8
    have h0 := ho (b - a) 0 h8
    have h1 := ho (b - a) 1 h8
    have h2 := ho (b - a) 2 h8
    dsimp only
    exact ((Way.swap1 s (by omega) (by omega)).trans (Way.swap1 _ (by omega) (by omega))).trans (Way.swap1 _ (by omega) (by omega))
  · exact .nil _ _
end
end Go.Proofs.Ytkklbnheiganlaa
