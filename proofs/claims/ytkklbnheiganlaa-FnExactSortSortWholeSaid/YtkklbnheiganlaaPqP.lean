/-
  The plain pdqsort over a machine with a view of an array is the kit's pdqsort over that array; so it sorts. No program of Go is named here.
-/
import Derived.Test.YtkklbnheiganlaaPqR
import Derived.Test.YtkklbnheiganlaaPqX
import Derived.Sort.AssemblyPlain
import Derived.Sort.LotD4
namespace Go.Proofs.Ytkklbnheiganlaa
set_option linter.unusedVariables false

/-- A machine that works on an array: Less asks lt of two elements, a question changes nothing, Swap swaps. -/
structure ArrV {σ α : Type} [Inhabited α] (M : Mach σ) (lt : α → α → Bool) (v : σ → Array α) : Prop where
  less : ∀ s i j, M.less s i j = lt (v s)[i]! (v s)[j]!
  tick : ∀ s i j, v (M.tick s i j) = v s
  swap : ∀ s i j, v (M.swap s i j) = Sort.swp (v s) i j

section
variable {σ α : Type} [Inhabited α] {M : Mach σ} {lt : α → α → Bool} {v : σ → Array α}

theorem arr_insInner (V : ArrV M lt v) (a : Nat) : ∀ (j : Nat) (s : σ), v (insInner M a j s) = Sort.insInner lt a j (v s)
  | 0, s => rfl
  | j + 1, s => by
    unfold insInner Sort.insInner
    by_cases h : a < j + 1
    · rw [if_pos h, V.less]
      cases hv : lt (v s)[j + 1]! (v s)[j]!
      · rw [if_neg (by simp), if_neg (by simp), V.tick]
      · rw [if_pos rfl, if_pos (by simp; omega), arr_insInner V a j, V.swap, V.tick]
    · rw [if_neg h, if_neg (by simp; omega)]
theorem arr_insOuter (V : ArrV M lt v) (a : Nat) : ∀ (k i : Nat) (s : σ), v (insOuter M a k i s) = Sort.insOuter lt a (i + k) i (v s)
  | 0, i, s => by unfold Sort.insOuter; rw [if_neg (by omega)]; rfl
  | k + 1, i, s => by
    unfold Sort.insOuter
    rw [if_pos (by omega)]
    show v (insOuter M a k (i + 1) (insInner M a i s)) = _
    rw [arr_insOuter V a k (i + 1), arr_insInner V, show i + 1 + k = i + (k + 1) by omega]
theorem arr_insSort (V : ArrV M lt v) (a b : Nat) (s : σ) : v (insSort M a b s) = Sort.insertionSort lt (v s) a b := by
  unfold insSort Sort.insertionSort
  rw [arr_insOuter V]
  rcases Nat.lt_or_ge a b with h | h
  · rw [show a + 1 + (b - (a + 1)) = b by omega]
  · rw [show a + 1 + (b - (a + 1)) = a + 1 by omega]
    unfold Sort.insOuter
    rw [if_neg (by omega), if_neg (by omega)]

theorem arr_siftD (V : ArrV M lt v) (hi first : Nat) : ∀ (f root : Nat) (s : σ), hi - root ≤ f → v (siftD M hi first f root s) = Sort.siftDown lt hi first root (v s)
  | 0, root, s, h => by unfold Sort.siftDown; rw [dif_pos (by omega)]; rfl
  | f + 1, root, s, h => by
    unfold siftD Sort.siftDown
    by_cases h0 : hi ≤ 2 * root + 1
    · rw [if_pos h0, dif_pos (by omega)]
    · rw [if_neg h0, dif_neg (by omega)]
      by_cases h1 : 2 * root + 2 < hi
      · rw [if_pos h1, V.less]
        have e0 : (v s)[first + (2 * root + 1) + 1]! = (v s)[first + (2 * root + 2)]! := rfl
        rw [e0]
        dsimp only
        cases hv : lt (v s)[first + (2 * root + 1)]! (v s)[first + (2 * root + 2)]!
        · rw [if_neg (show ¬ (false = true) by simp), if_neg (show ¬ ((decide (2 * root + 1 + 1 < hi) && false) = true) by simp), V.less, V.tick]
          cases hw : lt (v s)[first + root]! (v s)[first + (2 * root + 1)]!
          · rw [if_neg (by simp), if_pos (by simp), V.tick, V.tick]
          · rw [if_pos rfl, if_neg (by simp), arr_siftD V hi first f _ _ (by omega), V.swap, V.tick, V.tick]
        · rw [if_pos rfl, if_pos (show (decide (2 * root + 1 + 1 < hi) && true) = true by simp; omega), V.less, V.tick]
          cases hw : lt (v s)[first + root]! (v s)[first + (2 * root + 2)]!
          · rw [if_neg (by simp), if_pos (by simp), V.tick, V.tick]
          · rw [if_pos rfl, if_neg (by simp), dif_pos h1, arr_siftD V hi first f _ _ (by omega), V.swap, V.tick, V.tick]
      · rw [if_neg h1, if_neg (show ¬ ((decide (2 * root + 1 + 1 < hi) && lt (v s)[first + (2 * root + 1)]! (v s)[first + (2 * root + 1) + 1]!) = true) by simp; omega), V.less]
        cases hw : lt (v s)[first + root]! (v s)[first + (2 * root + 1)]!
        · rw [if_neg (by simp), if_pos (by simp), V.tick]
        · rw [if_pos rfl, if_neg (by simp), arr_siftD V hi first f _ _ (by omega), V.swap, V.tick]
theorem arr_heapB (V : ArrV M lt v) (hi first : Nat) : ∀ (k : Nat) (s : σ), v (heapB M hi first k s) = Sort.heapBuild lt hi first k (v s)
  | 0, s => rfl
  | k + 1, s => by
    show v (heapB M hi first k (siftD M hi first hi k s)) = Sort.heapBuild lt hi first k (Sort.siftDown lt hi first k (v s))
    rw [arr_heapB V hi first k, arr_siftD V _ _ _ _ _ (by omega)]
theorem arr_heapP (V : ArrV M lt v) (first : Nat) : ∀ (k : Nat) (s : σ), v (heapP M first k s) = Sort.heapPop lt first k (v s)
  | 0, s => rfl
  | k + 1, s => by
    show v (heapP M first k (siftD M k first k 0 (M.swap s first (first + k)))) = Sort.heapPop lt first k (Sort.siftDown lt k first 0 (Sort.swp (v s) first (first + k)))
    rw [arr_heapP V first k, arr_siftD V _ _ _ _ _ (by omega), V.swap]
theorem arr_heapS (V : ArrV M lt v) (a b : Nat) (s : σ) : v (heapS M a b s) = Sort.heapSort lt (v s) a b := by
  unfold heapS Sort.heapSort
  rw [arr_heapP V, arr_heapB V]

/-- a scan upwards: p tells of the element whether it goes on -/
theorem arr_scanU (V : ArrV M lt v) (x y : Nat → Nat) (up : Bool) (p : α → Bool) (j : Nat) : ∀ (f i : Nat) (s : σ), (∀ k, (lt (v s)[x k]! (v s)[y k]! == up) = p (v s)[k]!) → j + 1 - i ≤ f →
    (scanU M x y up (j + 1) f i s).1 = Sort.scanUp p (v s) j i ∧ v (scanU M x y up (j + 1) f i s).2 = v s
  | 0, i, s, _, h => by unfold Sort.scanUp; rw [if_neg (by simp; omega)]; exact ⟨rfl, rfl⟩
  | f + 1, i, s, hp, h => by
    unfold scanU Sort.scanUp
    by_cases h1 : i < j + 1
    · rw [if_pos h1, V.less]
      have h2 := hp i
      cases hv : p (v s)[i]!
      · rw [hv] at h2
        rw [if_neg (fun e => by rw [e] at h2; simp at h2), if_neg (by simp)]
        exact ⟨rfl, V.tick _ _ _⟩
      · rw [hv] at h2
        rw [if_pos (by simpa using h2), if_pos (by simp; omega)]
        have ih := arr_scanU V x y up p j f (i + 1) (M.tick s (x i) (y i)) (by rw [V.tick]; exact hp) (by omega)
        rw [V.tick] at ih
        exact ih
    · rw [if_neg h1, if_neg (by simp; omega)]
      exact ⟨rfl, rfl⟩
theorem arr_scanD (V : ArrV M lt v) (x y : Nat → Nat) (up : Bool) (p : α → Bool) (lo : Nat) : ∀ (j : Nat) (s : σ), (∀ k, (lt (v s)[x k]! (v s)[y k]! == up) = p (v s)[k]!) →
    (scanD M x y up lo j s).1 = Sort.scanDown p (v s) lo j ∧ v (scanD M x y up lo j s).2 = v s
  | 0, s, _ => ⟨rfl, rfl⟩
  | j + 1, s, hp => by
    unfold scanD Sort.scanDown
    by_cases h1 : lo ≤ j + 1
    · rw [if_pos h1, V.less]
      have h2 := hp (j + 1)
      cases hv : p (v s)[j + 1]!
      · rw [hv] at h2
        rw [if_neg (fun e => by rw [e] at h2; simp at h2), if_neg (by simp)]
        exact ⟨rfl, V.tick _ _ _⟩
      · rw [hv] at h2
        rw [if_pos (by simpa using h2), if_pos (by simp; omega)]
        have ih := arr_scanD V x y up p lo j (M.tick s (x (j + 1)) (y (j + 1))) (by rw [V.tick]; exact hp)
        rw [V.tick] at ih
        exact ih
    · rw [if_neg h1, if_neg (by simp; omega)]
      exact ⟨rfl, rfl⟩
theorem arr_scanS (V : ArrV M lt v) (b : Nat) : ∀ (f i : Nat) (s : σ), b - i ≤ f →
    (scanU M (fun i => i) (fun i => i - 1) false b f i s).1 = Sort.scanSorted lt (v s) b i ∧ v (scanU M (fun i => i) (fun i => i - 1) false b f i s).2 = v s
  | 0, i, s, h => by unfold Sort.scanSorted; rw [if_neg (by simp; omega)]; exact ⟨rfl, rfl⟩
  | f + 1, i, s, h => by
    unfold scanU Sort.scanSorted
    by_cases h1 : i < b
    · rw [if_pos h1, V.less]
      cases hv : lt (v s)[i]! (v s)[i - 1]!
      · rw [if_pos rfl, if_pos (by simp; omega)]
        have ih := arr_scanS V b f (i + 1) (M.tick s i (i - 1)) (by omega)
        rw [V.tick] at ih
        exact ih
      · rw [if_neg (by simp), if_neg (by simp)]
        exact ⟨rfl, V.tick _ _ _⟩
    · rw [if_neg h1, if_neg (by simp; omega)]
      exact ⟨rfl, rfl⟩

theorem arr_parU (V : ArrV M lt v) (a i j : Nat) (s : σ) : ((parU M a false i j s).1 = Sort.scanUp (fun x => lt x (v s)[a]!) (v s) j i ∧ v (parU M a false i j s).2 = v s) ∧ ((parU M a true i j s).1 = Sort.scanUp (fun x => !lt (v s)[a]! x) (v s) j i ∧ v (parU M a true i j s).2 = v s) := by
  unfold parU
  exact ⟨arr_scanU V _ _ true _ j (j + 1 - i) i s (fun k => by cases lt (v s)[k]! (v s)[a]! <;> rfl) (Nat.le_refl _), arr_scanU V _ _ false _ j (j + 1 - i) i s (fun k => by cases lt (v s)[a]! (v s)[k]! <;> rfl) (Nat.le_refl _)⟩
theorem arr_parD (V : ArrV M lt v) (a i j : Nat) (s : σ) : ((parD M a false i j s).1 = Sort.scanDown (fun x => !lt x (v s)[a]!) (v s) i j ∧ v (parD M a false i j s).2 = v s) ∧ ((parD M a true i j s).1 = Sort.scanDown (fun x => lt (v s)[a]! x) (v s) i j ∧ v (parD M a true i j s).2 = v s) := by
  unfold parD
  exact ⟨arr_scanD V _ _ false _ i j s (fun k => by cases lt (v s)[k]! (v s)[a]! <;> rfl), arr_scanD V _ _ true _ i j s (fun k => by cases lt (v s)[a]! (v s)[k]! <;> rfl)⟩

theorem arr_partL (V : ArrV M lt v) (a : Nat) : ∀ (f i j : Nat) (s : σ), j + 1 - i + 1 ≤ f → ((partL M a false f i j s).2.1 = (Sort.partLoop lt a i j (v s)).1 ∧ v (partL M a false f i j s).2.2 = (Sort.partLoop lt a i j (v s)).2) ∧ ((partL M a true f i j s).1 = (Sort.partEqLoop lt a i j (v s)).1 ∧ v (partL M a true f i j s).2.2 = (Sort.partEqLoop lt a i j (v s)).2)
  | 0, i, j, s, h => by omega
  | f + 1, i, j, s, h => by
    constructor
    · rw [partL_eq, Sort.partLoop_eq]
      have h1 := (arr_parU V a i j s).1
      generalize parU M a false i j s = r1 at *
      have h2 := (arr_parD V a r1.1 j r1.2).1
      rw [h1.2, h1.1] at h2
      generalize hr2 : parD M a false r1.1 j r1.2 = r2 at *
      rw [h1.1] at hr2
      rw [hr2] at h2
      rw [h1.1, ← h2.1]
      by_cases hlt : r2.1 < Sort.scanUp (fun x => lt x (v s)[a]!) (v s) j i
      · rw [if_pos hlt, if_pos hlt]
        exact ⟨rfl, h2.2⟩
      · rw [if_neg hlt, if_neg hlt]
        have hle := Sort.scanUp_ge (fun x => lt x (v s)[a]!) (v s) j i
        have hle2 := Sort.scanDown_le (fun x => !lt x (v s)[a]!) (v s) (Sort.scanUp (fun x => lt x (v s)[a]!) (v s) j i) j
        rw [← h2.1] at hle2
        have ih := (arr_partL V a f (Sort.scanUp (fun x => lt x (v s)[a]!) (v s) j i + 1) (r2.1 - 1) (M.swap r2.2 (Sort.scanUp (fun x => lt x (v s)[a]!) (v s) j i) r2.1) (by omega)).1
        rw [V.swap, h2.2] at ih
        exact ih
    · rw [partL_eq, Sort.partEqLoop_eq]
      have h1 := (arr_parU V a i j s).2
      generalize parU M a true i j s = r1 at *
      have h2 := (arr_parD V a r1.1 j r1.2).2
      rw [h1.2, h1.1] at h2
      generalize hr2 : parD M a true r1.1 j r1.2 = r2 at *
      rw [h1.1] at hr2
      rw [hr2] at h2
      rw [h1.1, ← h2.1]
      by_cases hlt : r2.1 < Sort.scanUp (fun x => !lt (v s)[a]! x) (v s) j i
      · rw [if_pos hlt, if_pos hlt]
        exact ⟨rfl, h2.2⟩
      · rw [if_neg hlt, if_neg hlt]
        have hle := Sort.scanUp_ge (fun x => !lt (v s)[a]! x) (v s) j i
        have hle2 := Sort.scanDown_le (fun x => lt (v s)[a]! x) (v s) (Sort.scanUp (fun x => !lt (v s)[a]! x) (v s) j i) j
        rw [← h2.1] at hle2
        have ih := (arr_partL V a f (Sort.scanUp (fun x => !lt (v s)[a]! x) (v s) j i + 1) (r2.1 - 1) (M.swap r2.2 (Sort.scanUp (fun x => !lt (v s)[a]! x) (v s) j i) r2.1) (by omega)).2
        rw [V.swap, h2.2] at ih
        exact ih

theorem arr_partEq (V : ArrV M lt v) (a b pivot : Nat) (hab : a < b) (s : σ) : (partEq M a b pivot s).1 = (Sort.partitionEqual lt (v s) a b pivot).1 ∧ v (partEq M a b pivot s).2 = (Sort.partitionEqual lt (v s) a b pivot).2 := by
  unfold partEq Sort.partitionEqual
  have h := (arr_partL V a (b - a) (a + 1) (b - 1) (M.swap s a pivot) (by omega)).2
  rw [V.swap] at h
  exact h
theorem arr_partit (V : ArrV M lt v) (a b pivot : Nat) (hab : a < b) (s : σ) : (partit M a b pivot s).1 = (Sort.partition lt (v s) a b pivot).1 ∧ (partit M a b pivot s).2.1 = (Sort.partition lt (v s) a b pivot).2.1 ∧ v (partit M a b pivot s).2.2 = (Sort.partition lt (v s) a b pivot).2.2 := by
  unfold Sort.partition
  dsimp only
  have h1 := (arr_parU V a (a + 1) (b - 1) (M.swap s a pivot)).1
  have e2 : parU M a false (a + 1) (b - 1) (M.swap s a pivot) = scanU M (fun i => i) (fun _ => a) true b (b - (a + 1)) (a + 1) (M.swap s a pivot) := by unfold parU; rw [show b - 1 + 1 = b by omega]; rfl
  rw [e2, V.swap] at h1
  unfold partit
  generalize scanU M (fun i => i) (fun _ => a) true b (b - (a + 1)) (a + 1) (M.swap s a pivot) = r1 at *
  have h2 := (arr_parD V a r1.1 (b - 1) r1.2).1
  change ((scanD M (fun j => j) (fun _ => a) false r1.1 (b - 1) r1.2).1 = _ ∧ v (scanD M (fun j => j) (fun _ => a) false r1.1 (b - 1) r1.2).2 = _) at h2
  dsimp only
  generalize scanD M (fun j => j) (fun _ => a) false r1.1 (b - 1) r1.2 = r2 at *
  rw [h1.2] at h2
  rw [h1.1] at h2
  have hle := Sort.scanUp_ge (fun x => lt x (Sort.swp (v s) a pivot)[a]!) (Sort.swp (v s) a pivot) (b - 1) (a + 1)
  have hle2 := Sort.scanDown_le (fun x => !lt x (Sort.swp (v s) a pivot)[a]!) (Sort.swp (v s) a pivot) (Sort.scanUp (fun x => lt x (Sort.swp (v s) a pivot)[a]!) (Sort.swp (v s) a pivot) (b - 1) (a + 1)) (b - 1)
  rw [← h2.1] at hle2
  rw [← h2.1, ← h1.1]
  rw [← h1.1] at hle
  by_cases hlt : r2.1 < r1.1
  · rw [if_pos hlt, if_pos hlt]
    dsimp only
    rw [V.swap, h2.2]
    exact ⟨rfl, rfl, rfl⟩
  · rw [if_neg hlt, if_neg hlt]
    have h := (arr_partL V a (b - a) (r1.1 + 1) (r2.1 - 1) (M.swap r2.2 r1.1 r2.1) (by omega)).1
    rw [V.swap, h2.2] at h
    dsimp only
    rw [V.swap, h.1, h.2]
    exact ⟨rfl, rfl, rfl⟩

theorem arr_shiftD (V : ArrV M lt v) : ∀ (j : Nat) (s : σ), v (insInner M 0 j s) = Sort.shiftDown lt j (v s)
  | 0, s => rfl
  | j + 1, s => by
    unfold insInner Sort.shiftDown
    rw [if_pos (Nat.succ_pos j), V.less]
    cases hv : lt (v s)[j + 1]! (v s)[j]!
    · rw [if_neg (by simp), if_pos (by simp), V.tick]
    · rw [if_pos rfl, if_neg (by simp), arr_shiftD V j, V.swap, V.tick]
theorem arr_shiftU (V : ArrV M lt v) (b : Nat) : ∀ (f j : Nat) (s : σ), b - j ≤ f → v (shiftU M b f j s) = Sort.shiftUp lt b j (v s)
  | 0, j, s, h => by unfold Sort.shiftUp; rw [if_neg (by omega)]; rfl
  | f + 1, j, s, h => by
    unfold shiftU Sort.shiftUp
    by_cases h1 : j < b
    · rw [if_pos h1, if_pos h1, V.less]
      cases hv : lt (v s)[j]! (v s)[j - 1]!
      · rw [if_neg (by simp), if_pos (by simp), V.tick]
      · rw [if_pos rfl, if_neg (by simp), arr_shiftU V b f _ _ (by omega), V.swap, V.tick]
    · rw [if_neg h1, if_neg h1]
theorem arr_partI (V : ArrV M lt v) (a b : Nat) : ∀ (k i : Nat) (s : σ), (partI M a b k i s).1 = (Sort.partialIns lt a b k i (v s)).2 ∧ v (partI M a b k i s).2 = (Sort.partialIns lt a b k i (v s)).1
  | 0, _, s => ⟨rfl, rfl⟩
  | k + 1, i, s => by
    rw [partI_eq]
    unfold Sort.partialIns
    dsimp only
    have h1 := arr_scanS V b (b - i) i s (Nat.le_refl _)
    generalize scanU M (fun i => i) (fun i => i - 1) false b (b - i) i s = r at *
    rw [← h1.1]
    by_cases hb : r.1 = b
    · rw [if_pos hb, if_pos hb]; exact ⟨rfl, h1.2⟩
    · rw [if_neg hb, if_neg hb]
      by_cases h50 : b - a < 50
      · rw [if_pos h50, if_pos h50]; exact ⟨rfl, h1.2⟩
      · rw [if_neg h50, if_neg h50]
        have h2 : v (partIS M a b r.1 r.2) = (if b - r.1 ≥ 2 then Sort.shiftUp lt b (r.1 + 1) (if r.1 - a ≥ 2 then Sort.shiftDown lt (r.1 - 1) (Sort.swp (v s) r.1 (r.1 - 1)) else Sort.swp (v s) r.1 (r.1 - 1)) else (if r.1 - a ≥ 2 then Sort.shiftDown lt (r.1 - 1) (Sort.swp (v s) r.1 (r.1 - 1)) else Sort.swp (v s) r.1 (r.1 - 1))) := by
          unfold partIS
          dsimp only
          have h3 : v (if 2 ≤ r.1 - a then insInner M 0 (r.1 - 1) (M.swap r.2 r.1 (r.1 - 1)) else M.swap r.2 r.1 (r.1 - 1)) = (if r.1 - a ≥ 2 then Sort.shiftDown lt (r.1 - 1) (Sort.swp (v s) r.1 (r.1 - 1)) else Sort.swp (v s) r.1 (r.1 - 1)) := by
            by_cases h : 2 ≤ r.1 - a
            · rw [if_pos h, if_pos h, arr_shiftD V, V.swap, h1.2]
            · rw [if_neg h, if_neg h, V.swap, h1.2]
          generalize (if 2 ≤ r.1 - a then insInner M 0 (r.1 - 1) (M.swap r.2 r.1 (r.1 - 1)) else M.swap r.2 r.1 (r.1 - 1)) = s2 at *
          by_cases h : 2 ≤ b - r.1
          · rw [if_pos h, if_pos h, arr_shiftU V b _ _ _ (by omega), h3]
          · rw [if_neg h, if_neg h, h3]
        have ih := arr_partI V a b k r.1 (partIS M a b r.1 r.2)
        rw [h2] at ih
        exact ih

theorem arr_ord2 (V : ArrV M lt v) (a b sw : Nat) (s : σ) : ((ord2 M a b sw s).1 = (Sort.order2 lt (v s) a b sw).1 ∧ (ord2 M a b sw s).2.1 = (Sort.order2 lt (v s) a b sw).2.1 ∧ (ord2 M a b sw s).2.2.1 = (Sort.order2 lt (v s) a b sw).2.2) ∧ v (ord2 M a b sw s).2.2.2 = v s := by
  unfold ord2 Sort.order2
  rw [V.less]
  cases lt (v s)[b]! (v s)[a]!
  · rw [if_neg (by simp), if_neg (by simp)]; exact ⟨⟨rfl, rfl, rfl⟩, V.tick _ _ _⟩
  · rw [if_pos rfl, if_pos rfl]; exact ⟨⟨rfl, rfl, rfl⟩, V.tick _ _ _⟩
theorem arr_med (V : ArrV M lt v) (a b c sw : Nat) (s : σ) : ((med M a b c sw s).1 = (Sort.median lt (v s) a b c sw).1 ∧ (med M a b c sw s).2.1 = (Sort.median lt (v s) a b c sw).2) ∧ v (med M a b c sw s).2.2 = v s := by
  unfold med Sort.median
  dsimp only
  have h1 := arr_ord2 V a b sw s
  generalize ord2 M a b sw s = r1 at *
  have h2 := arr_ord2 V r1.2.1 c r1.2.2.1 r1.2.2.2
  generalize ord2 M r1.2.1 c r1.2.2.1 r1.2.2.2 = r2 at *
  have h3 := arr_ord2 V r1.1 r2.1 r2.2.2.1 r2.2.2.2
  generalize ord2 M r1.1 r2.1 r2.2.2.1 r2.2.2.2 = r3 at *
  rw [h2.2, h1.2] at h3
  rw [h1.2] at h2
  rw [← h1.1.1, ← h1.1.2.1, ← h1.1.2.2, ← h2.1.1, ← h2.1.2.2]
  exact ⟨⟨h3.1.2.1, h3.1.2.2⟩, h3.2⟩
theorem arr_medAdj (V : ArrV M lt v) (a sw : Nat) (s : σ) : ((medAdj M a sw s).1 = (Sort.medianAdjacent lt (v s) a sw).1 ∧ (medAdj M a sw s).2.1 = (Sort.medianAdjacent lt (v s) a sw).2) ∧ v (medAdj M a sw s).2.2 = v s := arr_med V _ _ _ _ _
/-- the kit's hint of a number -/
def hintK (h : Nat) : Sort.Hint := if h = 1 then .increasing else if h = 2 then .decreasing else .unknown
theorem hintK_of (sw : Nat) : hintK (hintOf sw) = (if sw = 0 then .increasing else if sw = 12 then .decreasing else .unknown : Sort.Hint) := by
  unfold hintOf hintK
  split
  · rfl
  · split <;> rfl
theorem arr_chooseP (V : ArrV M lt v) (a b : Nat) (s : σ) : ((chooseP M a b s).1 = (Sort.choosePivot lt (v s) a b).1 ∧ hintK (chooseP M a b s).2.1 = (Sort.choosePivot lt (v s) a b).2) ∧ v (chooseP M a b s).2.2 = v s := by
  unfold chooseP Sort.choosePivot
  dsimp only
  rw [hintK_of]
  by_cases h8 : 8 ≤ b - a
  · rw [if_pos h8, if_pos (show b - a ≥ 8 from h8)]
    by_cases h50 : 50 ≤ b - a
    · rw [if_pos h50, if_pos (show b - a ≥ 50 from h50)]
      have h1 := arr_medAdj V (a + (b - a) / 4 * 1) 0 s
      generalize medAdj M (a + (b - a) / 4 * 1) 0 s = r1 at *
      have h2 := arr_medAdj V (a + (b - a) / 4 * 2) r1.2.1 r1.2.2
      generalize medAdj M (a + (b - a) / 4 * 2) r1.2.1 r1.2.2 = r2 at *
      have h3 := arr_medAdj V (a + (b - a) / 4 * 3) r2.2.1 r2.2.2
      generalize medAdj M (a + (b - a) / 4 * 3) r2.2.1 r2.2.2 = r3 at *
      have h4 := arr_med V r1.1 r2.1 r3.1 r3.2.1 r3.2.2
      generalize med M r1.1 r2.1 r3.1 r3.2.1 r3.2.2 = r4 at *
      rw [h3.2, h2.2, h1.2] at h4
      rw [h2.2, h1.2] at h3
      rw [h1.2] at h2
      rw [← h1.1.2, ← h2.1.2, ← h1.1.1, ← h2.1.1, ← h3.1.1, ← h3.1.2, ← h4.1.1, ← h4.1.2]
      exact ⟨⟨rfl, rfl⟩, h4.2⟩
    · rw [if_neg h50, if_neg (show ¬ b - a ≥ 50 from h50)]
      have h4 := arr_med V (a + (b - a) / 4 * 1) (a + (b - a) / 4 * 2) (a + (b - a) / 4 * 3) 0 s
      generalize med M (a + (b - a) / 4 * 1) (a + (b - a) / 4 * 2) (a + (b - a) / 4 * 3) 0 s = r4 at *
      rw [← h4.1.1, ← h4.1.2]
      exact ⟨⟨rfl, rfl⟩, h4.2⟩
  · rw [if_neg h8, if_neg (show ¬ b - a ≥ 8 from h8)]
    exact ⟨⟨rfl, rfl⟩, rfl⟩

theorem arr_revL (V : ArrV M lt v) : ∀ (f i j : Nat) (s : σ), j - i ≤ f → v (revL M f i j s) = Sort.reverseLoop i j (v s)
  | 0, i, j, s, h => by unfold Sort.reverseLoop; rw [if_neg (by omega)]; rfl
  | f + 1, i, j, s, h => by
    unfold revL Sort.reverseLoop
    by_cases h1 : i < j
    · rw [if_pos h1, if_pos h1, arr_revL V f _ _ _ (by omega), V.swap]
    · rw [if_neg h1, if_neg h1]
theorem arr_revR (V : ArrV M lt v) (a b : Nat) (s : σ) : v (revR M a b s) = Sort.reverseRange (v s) a b := arr_revL V _ _ _ _ (by omega)

theorem rnd_u64 (l : Nat) (h : l < 18446744073709551616) : (UInt64.ofNat l).toNat = rnd l 0 := by simp [rnd]; omega
theorem arr_breakStep (V : ArrV M lt v) (a l k : Nat) (r : UInt64) (s : σ) (x : Nat) (hr : r.toNat = rnd l k) :
    (Sort.breakStep a l (1 <<< Sort.bitsLen l) (r, v s) x).1.toNat = rnd l (k + 1) ∧ (Sort.breakStep a l (1 <<< Sort.bitsLen l) (r, v s) x).2 = v (M.swap s x (a + othR l k)) := by
  have h1 : (Sort.xorNext r).toNat = rnd l (k + 1) := by rw [Sort.xorNext_toNat, hr]; rfl
  unfold Sort.breakStep
  dsimp only
  rw [h1, V.swap]
  exact ⟨rfl, rfl⟩
theorem arr_breakP (V : ArrV M lt v) (a b : Nat) (s : σ) (hl : b - a < 18446744073709551616) : v (breakP M othR a b s) = Sort.breakPatterns (v s) a b := by
  unfold breakP Sort.breakPatterns
  dsimp only
  by_cases h8 : 8 ≤ b - a
  · rw [if_pos h8, if_pos (show b - a ≥ 8 from h8)]
    have h1 := arr_breakStep V a (b - a) 0 (UInt64.ofNat (b - a)) s (a + (b - a) / 4 * 2 - 1) (rnd_u64 _ hl)
    generalize hq1 : Sort.breakStep a (b - a) (1 <<< Sort.bitsLen (b - a)) (UInt64.ofNat (b - a), v s) (a + (b - a) / 4 * 2 - 1) = q1 at *
    obtain ⟨r1, d1⟩ := q1
    obtain ⟨g1, g2⟩ := h1
    dsimp only at g1 g2
    rw [g2]
    have h2 := arr_breakStep V a (b - a) 1 r1 (M.swap s (a + (b - a) / 4 * 2 - 1) (a + othR (b - a) 0)) (a + (b - a) / 4 * 2 - 1 + 1) g1
    generalize hq2 : Sort.breakStep a (b - a) (1 <<< Sort.bitsLen (b - a)) (r1, v (M.swap s (a + (b - a) / 4 * 2 - 1) (a + othR (b - a) 0))) (a + (b - a) / 4 * 2 - 1 + 1) = q2 at *
    obtain ⟨r2, d2⟩ := q2
    obtain ⟨g3, g4⟩ := h2
    dsimp only at g3 g4
    rw [g4]
    exact (arr_breakStep V a (b - a) 2 r2 _ (a + (b - a) / 4 * 2 - 1 + 2) g3).2.symm
  · rw [if_neg h8, if_neg (show ¬ b - a ≥ 8 from h8)]

theorem arr_pdqL (V : ArrV M lt v) : ∀ (f a b lim : Nat) (wb wp : Bool) (s : σ), b - a ≤ f → b - a < 18446744073709551616 → v (pdqL M othR f a b lim wb wp s) = Sort.pdq lt (v s) a b lim wb wp
  | 0, a, b, lim, wb, wp, s, h, _ => by
    rw [Sort.pdq, if_pos (by omega), ← arr_insSort V]
    rw [pdqL_small h (by omega)]
  | f + 1, a, b, lim, wb, wp, s, h, hl => by
    by_cases h12 : b - a ≤ 12
    · rw [Sort.pdq, if_pos h12, ← arr_insSort V, pdqL_small h h12]
    · by_cases h0 : lim = 0
      · subst h0
        rw [Sort.pdq, if_neg h12, if_pos rfl, ← arr_heapS V, pdqL_heap h12]
      · rw [pdqL_round h12 h0, Sort.pdq, if_neg h12, if_neg h0]
        dsimp only
        have e1 : v (rdA M othR a b wb s) = (if (!wb) = true then Sort.breakPatterns (v s) a b else v s) := by
          unfold rdA
          cases wb
          · rw [if_neg (by simp), if_pos (by simp), arr_breakP V _ _ _ hl]
          · rw [if_pos rfl, if_neg (by simp)]
        have e2 : limN lim wb = (if (!wb) = true then lim - 1 else lim) := by unfold limN; cases wb <;> rfl
        rw [← e1, ← e2]
        generalize rdA M othR a b wb s = s1 at *
        have h3 := arr_chooseP V a b s1
        have wch := Sort.choosePivot_holds lt (v s1) a b (by omega)
        rw [← h3.1.1] at wch
        generalize chooseP M a b s1 = c at *
        rw [← h3.1.1, ← h3.1.2]
        have e3 : v (rdR M a b c) = (if hintK c.2.1 = .decreasing then Sort.reverseRange (v s1) a b else v s1) := by
          unfold rdR hintK
          by_cases h2 : c.2.1 = 2
          · rw [if_pos h2, if_neg (show ¬ c.2.1 = 1 by omega), if_pos h2, if_pos rfl, arr_revR V, h3.2]
          · rw [if_neg h2]
            by_cases h1 : c.2.1 = 1
            · rw [if_pos h1, if_neg (by simp), h3.2]
            · rw [if_neg h1, if_neg h2, if_neg (by simp), h3.2]
        have e4 : rdV a b c = (if hintK c.2.1 = .decreasing then b - 1 - (c.1 - a) else c.1) := by
          unfold rdV hintK
          by_cases h2 : c.2.1 = 2
          · rw [if_pos h2, if_neg (show ¬ c.2.1 = 1 by omega), if_pos h2, if_pos rfl]
          · rw [if_neg h2]
            by_cases h1 : c.2.1 = 1
            · rw [if_pos h1, if_neg (by simp)]
            · rw [if_neg h1, if_neg h2, if_neg (by simp)]
        have e5 : (rdH c = 1) ↔ (if hintK c.2.1 = .decreasing then Sort.Hint.increasing else hintK c.2.1) = .increasing := by
          unfold rdH hintK
          by_cases h2 : c.2.1 = 2
          · rw [if_pos h2, if_neg (show ¬ c.2.1 = 1 by omega), if_pos h2, if_pos rfl]; simp
          · rw [if_neg h2]
            by_cases h1 : c.2.1 = 1
            · rw [if_pos h1, if_neg (by simp)]; simp [h1]
            · rw [if_neg h1, if_neg h2, if_neg (by simp)]; simp [h1]
        have hpv := rdV_in a b c wch.1 wch.2
        rw [← e3, ← e4]
        generalize rdR M a b c = s2 at *
        generalize rdV a b c = pv at *
        have e6 : (rdP M a b wb wp (rdH c) s2).1 = (if (wb && wp && decide ((if hintK c.2.1 = .decreasing then Sort.Hint.increasing else hintK c.2.1) = .increasing)) = true then Sort.partialInsertionSort lt (v s2) a b else (v s2, false)).2 ∧ v (rdP M a b wb wp (rdH c) s2).2 = (if (wb && wp && decide ((if hintK c.2.1 = .decreasing then Sort.Hint.increasing else hintK c.2.1) = .increasing)) = true then Sort.partialInsertionSort lt (v s2) a b else (v s2, false)).1 := by
          unfold rdP
          by_cases hc : wb = true ∧ wp = true ∧ rdH c = 1
          · rw [if_pos hc, if_pos (by simp [hc.1, hc.2.1, e5.1 hc.2.2])]
            exact arr_partI V a b 5 (a + 1) s2
          · rw [if_neg hc, if_neg (by
              intro h
              simp only [Bool.and_eq_true, decide_eq_true_eq] at h
              exact hc ⟨h.1.1, h.1.2, e5.2 h.2⟩)]
            exact ⟨rfl, rfl⟩
        generalize rdP M a b wb wp (rdH c) s2 = p at *
        generalize (if (wb && wp && decide ((if hintK c.2.1 = .decreasing then Sort.Hint.increasing else hintK c.2.1) = .increasing)) = true then Sort.partialInsertionSort lt (v s2) a b else (v s2, false)) = pk at *
        rw [← e6.1]
        by_cases hp1 : p.1 = true
        · rw [if_pos hp1, if_pos hp1, e6.2]
        · rw [if_neg hp1, if_neg hp1, ← e6.2]
          unfold rdT
          rw [V.less]
          by_cases ha : 0 < a ∧ lt (v p.2)[a - 1]! (v p.2)[pv]! = false
          · rw [if_pos ha, if_pos (by simp [ha.1, ha.2])]
            unfold rdE
            have h7 := arr_partEq V a b pv (by omega) (M.tick p.2 (a - 1) pv)
            have w7 := way_partEq (M := M) (n := b) a b pv (M.tick p.2 (a - 1) pv) hpv.1 hpv.2 (Nat.le_refl _)
            rw [V.tick] at h7
            generalize Sort.partitionEqual lt (v p.2) a b pv = rk at *
            generalize partEq M a b pv (M.tick p.2 (a - 1) pv) = r at *
            obtain ⟨k1, k2⟩ := rk
            dsimp only at h7 ⊢
            rw [dif_pos (by omega), ← h7.1, ← h7.2]
            exact arr_pdqL V f r.1 b _ wb wp r.2 (by omega) (by omega)
          · rw [if_neg ha, if_neg (show ¬ ((decide (a > 0) && !lt (v p.2)[a - 1]! (v p.2)[pv]!) = true) from fun h => by
              simp only [Bool.and_eq_true, Bool.not_eq_true', decide_eq_true_eq] at h
              exact ha ⟨h.1, h.2⟩)]
            have h6 : v (if 0 < a then M.tick p.2 (a - 1) pv else p.2) = v p.2 := by
              split
              · exact V.tick _ _ _
              · rfl
            generalize (if 0 < a then M.tick p.2 (a - 1) pv else p.2) = t at *
            unfold rdU
            have h7 := arr_partit V a b pv (by omega) t
            have w7 := way_partit (M := M) (n := b) a b pv t hpv.1 hpv.2 (Nat.le_refl _)
            rw [h6] at h7
            generalize Sort.partition lt (v p.2) a b pv = rk at *
            generalize partit M a b pv t = r at *
            obtain ⟨k1, k2, k3⟩ := rk
            obtain ⟨mid, ap, t3⟩ := r
            dsimp only at h7 w7 ⊢
            rw [dif_pos (by omega), ← h7.1, ← h7.2.1, ← h7.2.2]
            by_cases hlr : mid - a < b - mid
            · rw [if_pos hlr, if_pos hlr, arr_pdqL V f (mid + 1) b _ _ _ _ (by omega) (by omega), arr_pdqL V f a mid _ _ _ _ (by omega) (by omega)]
            · rw [if_neg hlr, if_neg hlr, arr_pdqL V f a mid _ _ _ _ (by omega) (by omega), arr_pdqL V f (mid + 1) b _ _ _ _ (by omega) (by omega)]

/-- The plain pdqsort sorts. -/
theorem pdqS_sorts (V : ArrV M lt v) (S : Sort.SWO lt) (s : σ) (n : Nat) (hn : (v s).size = n) (h64 : n < 18446744073709551616) : Sort.SortedIn lt 0 n (v (pdqS M othR n s)) := by
  unfold pdqS
  by_cases h1 : n ≤ 1
  · rw [if_pos h1]
    intro i j _ h2 h3
    omega
  · rw [if_neg h1, arr_pdqL V n 0 n _ true true s (by omega) (by omega)]
    exact (Sort.pdq_sorts lt S (v s) 0 n _ true true (Nat.zero_le _) (by omega) (.inl rfl)).2
end
end Go.Proofs.Ytkklbnheiganlaa
