/-
  Several texts of the walk or of the plain theory in one: PqM, PqT, PqR, PqX, PqP.
-/
import Derived.Test.YtjammaglboehcaaZA
import Derived.Sort.LotD5
import Derived.Sort.LotD1
import Derived.Sort.AssemblyPlain
import Derived.Sort.LotD4
namespace Go.Proofs.Ytjammaglboehcaa
set_option linter.unusedVariables false

section
variable {σ : Type} (M : Mach σ)

/-- siftDown from root on -/
def siftD (hi first : Nat) : Nat → Nat → σ → σ
  | 0, _, s => s
  | f + 1, root, s =>
    if hi ≤ 2 * root + 1 then s
    else if 2 * root + 2 < hi then
      (if M.less s (first + (2 * root + 1)) (first + (2 * root + 2)) = true then
        (let t := M.tick s (first + (2 * root + 1)) (first + (2 * root + 2))
         if M.less t (first + root) (first + (2 * root + 2)) = true then siftD hi first f (2 * root + 2) (M.swap (M.tick t (first + root) (first + (2 * root + 2))) (first + root) (first + (2 * root + 2))) else M.tick t (first + root) (first + (2 * root + 2)))
      else
        (let t := M.tick s (first + (2 * root + 1)) (first + (2 * root + 2))
         if M.less t (first + root) (first + (2 * root + 1)) = true then siftD hi first f (2 * root + 1) (M.swap (M.tick t (first + root) (first + (2 * root + 1))) (first + root) (first + (2 * root + 1))) else M.tick t (first + root) (first + (2 * root + 1))))
    else (if M.less s (first + root) (first + (2 * root + 1)) = true then siftD hi first f (2 * root + 1) (M.swap (M.tick s (first + root) (first + (2 * root + 1))) (first + root) (first + (2 * root + 1))) else M.tick s (first + root) (first + (2 * root + 1)))

def heapB (hi first : Nat) : Nat → σ → σ
  | 0, s => s
  | k + 1, s => heapB hi first k (siftD M hi first hi k s)

def heapP (first : Nat) : Nat → σ → σ
  | 0, s => s
  | k + 1, s => heapP first k (siftD M k first k 0 (M.swap s first (first + k)))

def heapS (a b : Nat) (s : σ) : σ := heapP M a (b - a) (heapB M (b - a) a ((b - a - 1) / 2 + 1) s)

/-- while i < hi and Less(x i, y i) is 'up': i++ -/
def scanU (x y : Nat → Nat) (up : Bool) (hi : Nat) : Nat → Nat → σ → Nat × σ
  | 0, i, s => (i, s)
  | f + 1, i, s => if i < hi then (if M.less s (x i) (y i) = up then scanU x y up hi f (i + 1) (M.tick s (x i) (y i)) else (i, M.tick s (x i) (y i))) else (i, s)

/-- while lo ≤ j and Less(x j, y j) is 'up': j-- -/
def scanD (x y : Nat → Nat) (up : Bool) (lo : Nat) : Nat → σ → Nat × σ
  | 0, s => (0, s)
  | j + 1, s => if lo ≤ j + 1 then (if M.less s (x (j + 1)) (y (j + 1)) = up then scanD x y up lo j (M.tick s (x (j + 1)) (y (j + 1))) else (j + 1, M.tick s (x (j + 1)) (y (j + 1)))) else (j + 1, s)

/-- the loop of partition (e = false) and of partitionEqual (e = true): where i and j stand at the break -/
def partL (a : Nat) (e : Bool) : Nat → Nat → Nat → σ → Nat × Nat × σ
  | 0, i, j, s => (i, j, s)
  | f + 1, i, j, s =>
    (let r1 := if e then scanU M (fun _ => a) (fun i => i) false (j + 1) (j + 1 - i) i s else scanU M (fun i => i) (fun _ => a) true (j + 1) (j + 1 - i) i s
     let r2 := if e then scanD M (fun _ => a) (fun j => j) true r1.1 j r1.2 else scanD M (fun j => j) (fun _ => a) false r1.1 j r1.2
     if r2.1 < r1.1 then (r1.1, r2.1, r2.2) else partL a e f (r1.1 + 1) (r2.1 - 1) (M.swap r2.2 r1.1 r2.1))

def partit (a b pivot : Nat) (s : σ) : Nat × Bool × σ :=
  let r1 := scanU M (fun i => i) (fun _ => a) true b (b - (a + 1)) (a + 1) (M.swap s a pivot)
  let r2 := scanD M (fun j => j) (fun _ => a) false r1.1 (b - 1) r1.2
  if r2.1 < r1.1 then (r2.1, true, M.swap r2.2 r2.1 a)
  else
    (let r := partL M a false (b - a) (r1.1 + 1) (r2.1 - 1) (M.swap r2.2 r1.1 r2.1)
     (r.2.1, false, M.swap r.2.2 r.2.1 a))

def partEq (a b pivot : Nat) (s : σ) : Nat × σ :=
  let r := partL M a true (b - a) (a + 1) (b - 1) (M.swap s a pivot)
  (r.1, r.2.2)

/-- while j < b and Less(j, j-1): swap, j++ -/
def shiftU (b : Nat) : Nat → Nat → σ → σ
  | 0, _, s => s
  | f + 1, j, s => if j < b then (if M.less s j (j - 1) = true then shiftU b f (j + 1) (M.swap (M.tick s j (j - 1)) j (j - 1)) else M.tick s j (j - 1)) else s

/-- so many steps of partialInsertionSort are left -/
def partI (a b : Nat) : Nat → Nat → σ → Bool × σ
  | 0, _, s => (false, s)
  | k + 1, i, s =>
    (let r := scanU M (fun i => i) (fun i => i - 1) false b (b - i) i s
     if r.1 = b then (true, r.2)
     else if b - a < 50 then (false, r.2)
     else
      (let s1 := M.swap r.2 r.1 (r.1 - 1)
       let s2 := if 2 ≤ r.1 - a then insInner M 0 (r.1 - 1) s1 else s1
       let s3 := if 2 ≤ b - r.1 then shiftU M b (b - (r.1 + 1)) (r.1 + 1) s2 else s2
       partI a b k r.1 s3))

/-- (the lesser one's place, the other's, swaps, state) -/
def ord2 (a b sw : Nat) (s : σ) : Nat × Nat × Nat × σ := if M.less s b a = true then (b, a, sw + 1, M.tick s b a) else (a, b, sw, M.tick s b a)
def med (a b c sw : Nat) (s : σ) : Nat × Nat × σ :=
  let r1 := ord2 M a b sw s
  let r2 := ord2 M r1.2.1 c r1.2.2.1 r1.2.2.2
  let r3 := ord2 M r1.1 r2.1 r2.2.2.1 r2.2.2.2
  (r3.2.1, r3.2.2.1, r3.2.2.2)
def medAdj (a sw : Nat) (s : σ) : Nat × Nat × σ := med M (a - 1) a (a + 1) sw s

/-- 0 unknown, 1 increasing, 2 decreasing -/
def hintOf (sw : Nat) : Nat := if sw = 0 then 1 else if sw = 12 then 2 else 0
def chooseP (a b : Nat) (s : σ) : Nat × Nat × σ :=
  let l := b - a
  let i := a + l / 4 * 1
  let j := a + l / 4 * 2
  let k := a + l / 4 * 3
  let r : Nat × Nat × σ :=
    if 8 ≤ l then
      (if 50 ≤ l then
        (let ri := medAdj M i 0 s
         let rj := medAdj M j ri.2.1 ri.2.2
         let rk := medAdj M k rj.2.1 rj.2.2
         med M ri.1 rj.1 rk.1 rk.2.1 rk.2.2)
      else med M i j k 0 s)
    else (j, 0, s)
  (r.1, hintOf r.2.1, r.2.2)

def revL : Nat → Nat → Nat → σ → σ
  | 0, _, _, s => s
  | f + 1, i, j, s => if i < j then revL f (i + 1) (j - 1) (M.swap s i j) else s
def revR (a b : Nat) (s : σ) : σ := revL M (b - a) a (b - 1) s

/-- breakPatterns, with what its random numbers come to: 'oth l k' for the k-th of three at the length l -/
def breakP (oth : Nat → Nat → Nat) (a b : Nat) (s : σ) : σ :=
  if 8 ≤ b - a then
    (let x := a + (b - a) / 4 * 2 - 1
     M.swap (M.swap (M.swap s x (a + oth (b - a) 0)) (x + 1) (a + oth (b - a) 1)) (x + 2) (a + oth (b - a) 2))
  else s

/-- the loop of pdqsort -/
def pdqL (oth : Nat → Nat → Nat) : Nat → Nat → Nat → Nat → Bool → Bool → σ → σ
  | 0, _, _, _, _, _, s => s
  | f + 1, a, b, lim, wb, wp, s =>
    if b - a ≤ 12 then insSort M a b s
    else if lim = 0 then heapS M a b s
    else
      (let s1 := if wb then s else breakP M oth a b s
       let lim := if wb then lim else lim - 1
       let c := chooseP M a b s1
       let s2 := if c.2.1 = 2 then revR M a b c.2.2 else c.2.2
       let pv := if c.2.1 = 2 then b - 1 - (c.1 - a) else c.1
       let h := if c.2.1 = 2 then 1 else c.2.1
       let p : Bool × σ := if wb = true ∧ wp = true ∧ h = 1 then partI M a b 5 (a + 1) s2 else (false, s2)
       if p.1 = true then p.2
       else if 0 < a ∧ M.less p.2 (a - 1) pv = false then
        (let r := partEq M a b pv (M.tick p.2 (a - 1) pv)
         pdqL oth f r.1 b lim wb wp r.2)
       else
        (let t := if 0 < a then M.tick p.2 (a - 1) pv else p.2
         let r := partit M a b pv t
         if r.1 - a < b - r.1 then pdqL oth f (r.1 + 1) b lim (decide ((b - a) / 8 ≤ r.1 - a)) r.2.1 (pdqL oth f a r.1 lim true true r.2.2)
         else pdqL oth f a r.1 lim (decide ((b - a) / 8 ≤ b - r.1)) r.2.1 (pdqL oth f (r.1 + 1) b lim true true r.2.2)))

def bitsL (n : Nat) : Nat := if n = 0 then 0 else Nat.log2 n + 1
def pdqS (oth : Nat → Nat → Nat) (n : Nat) (s : σ) : σ := if n ≤ 1 then s else pdqL M oth n 0 n (bitsL n) true true s
end
end Go.Proofs.Ytjammaglboehcaa

namespace Go.Proofs.Ytjammaglboehcaa
set_option linter.unusedVariables false

/-- From s to t by at most k questions and swaps of places below n. -/
inductive Way {σ : Type} (M : Mach σ) (n : Nat) : Nat → σ → σ → Prop
  | nil (k : Nat) (s : σ) : Way M n k s s
  | tick (k : Nat) (s t : σ) (i j : Nat) : i < n → j < n → Way M n k (M.tick s i j) t → Way M n (k + 1) s t
  | swap (k : Nat) (s t : σ) (i j : Nat) : i < n → j < n → Way M n k (M.swap s i j) t → Way M n (k + 1) s t

section
variable {σ : Type} {M : Mach σ} {n : Nat}
theorem Way.keep {K : σ → Prop} (G : Keeps M n K) {k : Nat} {s t : σ} (h : Way M n k s t) : K s → K t := by
  induction h with
  | nil => exact id
  | tick k s t i j hi hj _ ih => exact fun hs => ih (G.tick s i j hi hj hs)
  | swap k s t i j hi hj _ ih => exact fun hs => ih (G.swap s i j hi hj hs)
theorem Way.cost {c : σ → Nat} (G : Costs M c) {k : Nat} {s t : σ} (h : Way M n k s t) : c t ≤ c s + k := by
  induction h with
  | nil k s => exact Nat.le_add_right _ _
  | tick k s t i j _ _ _ ih => have := G.tick s i j; omega
  | swap k s t i j _ _ _ ih => have := G.swap s i j; omega
theorem Way.ok {ok : σ → Prop} (G : Guard M ok) {k : Nat} {s t : σ} (h : Way M n k s t) : ok t → ok s := by
  induction h with
  | nil => exact id
  | tick k s t i j _ _ _ ih => exact fun ht => G.tick s i j (ih ht)
  | swap k s t i j _ _ _ ih => exact fun ht => G.swap s i j (ih ht)
theorem Way.mono {k k' : Nat} {s t : σ} (h : Way M n k s t) (hk : k ≤ k') : Way M n k' s t := by
  induction h generalizing k' with
  | nil => exact .nil _ _
  | tick k s t i j hi hj _ ih =>
    obtain ⟨q, rfl⟩ : ∃ q, k' = q + 1 := ⟨k' - 1, by omega⟩
    exact .tick _ _ _ i j hi hj (ih (by omega))
  | swap k s t i j hi hj _ ih =>
    obtain ⟨q, rfl⟩ : ∃ q, k' = q + 1 := ⟨k' - 1, by omega⟩
    exact .swap _ _ _ i j hi hj (ih (by omega))
theorem Way.trans {k k' : Nat} {s t u : σ} (h : Way M n k s t) (h' : Way M n k' t u) : Way M n (k + k') s u := by
  induction h with
  | nil k s => exact h'.mono (by omega)
  | tick k s t i j hi hj _ ih => exact (Way.tick _ _ _ i j hi hj (ih h')).mono (by omega)
  | swap k s t i j hi hj _ ih => exact (Way.swap _ _ _ i j hi hj (ih h')).mono (by omega)
theorem Way.tick1 (s : σ) {i j : Nat} (hi : i < n) (hj : j < n) : Way M n 1 s (M.tick s i j) := .tick 0 _ _ i j hi hj (.nil _ _)
theorem Way.swap1 (s : σ) {i j : Nat} (hi : i < n) (hj : j < n) : Way M n 1 s (M.swap s i j) := .swap 0 _ _ i j hi hj (.nil _ _)
/-- question, then swap -/
theorem Way.both (s : σ) {i j : Nat} (hi : i < n) (hj : j < n) : Way M n 2 s (M.swap (M.tick s i j) i j) := (Way.tick1 s hi hj).trans (Way.swap1 _ hi hj)

theorem way_insInner (a : Nat) : ∀ (j : Nat) (s : σ), j < n → Way M n (2 * (j - a)) s (insInner M a j s)
  | 0, s, _ => .nil _ _
  | j + 1, s, hj => by
    unfold insInner
    split
    · split
      · exact ((Way.both s hj (by omega)).trans (way_insInner a j _ (by omega))).mono (by omega)
      · exact (Way.tick1 s hj (by omega)).mono (by omega)
    · exact .nil _ _
theorem way_insOuter (a : Nat) : ∀ (k i : Nat) (s : σ), i + k ≤ n → Way M n (k * (2 * (i + k - a))) s (insOuter M a k i s)
  | 0, _, s, _ => .nil _ _
  | k + 1, i, s, h => by
    refine ((way_insInner a i s (by omega)).trans (way_insOuter a k (i + 1) _ (by omega))).mono ?_
    rw [show i + 1 + k - a = i + (k + 1) - a by omega]
    have h3 : (k + 1) * (2 * (i + (k + 1) - a)) = k * (2 * (i + (k + 1) - a)) + 2 * (i + (k + 1) - a) := Nat.succ_mul _ _
    omega
theorem way_insSort (a b : Nat) (s : σ) (hb : b ≤ n) : Way M n ((b - a - 1) * (2 * (b - a))) s (insSort M a b s) := by
  unfold insSort
  rcases Nat.lt_or_ge a b with h1 | h1
  · have h := way_insOuter (M := M) (n := n) a (b - (a + 1)) (a + 1) s (by omega)
    rw [show a + 1 + (b - (a + 1)) - a = b - a by omega] at h
    exact h.mono (by rw [show b - (a + 1) = b - a - 1 by omega]; exact Nat.le_refl _)
  · rw [show b - (a + 1) = 0 by omega]; exact .nil _ _

theorem way_siftD (hi first : Nat) (hf : first + hi ≤ n) : ∀ (f root : Nat) (s : σ), root < hi → Way M n (3 * f) s (siftD M hi first f root s)
  | 0, _, s, _ => .nil _ _
  | f + 1, root, s, hr => by
    unfold siftD
    split
    · exact .nil _ _
    · split
      · split
        · dsimp only
          split
          · exact (((Way.tick1 s (by omega) (by omega)).trans (Way.both _ (by omega) (by omega))).trans (way_siftD hi first hf f _ _ (by omega))).mono (by omega)
          · exact ((Way.tick1 s (by omega) (by omega)).trans (Way.tick1 _ (by omega) (by omega))).mono (by omega)
        · dsimp only
          split
          · exact (((Way.tick1 s (by omega) (by omega)).trans (Way.both _ (by omega) (by omega))).trans (way_siftD hi first hf f _ _ (by omega))).mono (by omega)
          · exact ((Way.tick1 s (by omega) (by omega)).trans (Way.tick1 _ (by omega) (by omega))).mono (by omega)
      · split
        · exact ((Way.both s (by omega) (by omega)).trans (way_siftD hi first hf f _ _ (by omega))).mono (by omega)
        · exact (Way.tick1 s (by omega) (by omega)).mono (by omega)
theorem siftD_none (hi first f root : Nat) (s : σ) (h : hi ≤ 2 * root + 1) : siftD M hi first f root s = s := by
  cases f with
  | zero => rfl
  | succ f => unfold siftD; rw [if_pos h]
theorem way_siftD' (hi first : Nat) (hf : first + hi ≤ n) (f root : Nat) (s : σ) : Way M n (3 * f) s (siftD M hi first f root s) := by
  rcases Nat.lt_or_ge root hi with h | h
  · exact way_siftD hi first hf f root s h
  · rw [siftD_none hi first f root s (by omega)]; exact .nil _ _
theorem way_heapB (hi first : Nat) (hf : first + hi ≤ n) : ∀ (k : Nat) (s : σ), Way M n (k * (3 * hi)) s (heapB M hi first k s)
  | 0, s => .nil _ _
  | k + 1, s => by
    refine ((way_siftD' hi first hf hi k s).trans (way_heapB hi first hf k _)).mono ?_
    have h3 : (k + 1) * (3 * hi) = k * (3 * hi) + 3 * hi := Nat.succ_mul _ _
    omega
theorem way_heapP (first m : Nat) (hf : first + m ≤ n) : ∀ (k : Nat) (s : σ), k ≤ m → Way M n (k * (3 * m + 1)) s (heapP M first k s)
  | 0, s, _ => .nil _ _
  | k + 1, s, hk => by
    refine (((Way.swap1 s (by omega) (by omega)).trans (way_siftD' k first (by omega) k 0 _)).trans (way_heapP first m hf k _ (by omega))).mono ?_
    have h3 : (k + 1) * (3 * m + 1) = k * (3 * m + 1) + (3 * m + 1) := Nat.succ_mul _ _
    omega
theorem way_heapS (a b : Nat) (s : σ) (ha : a ≤ b) (hb : b ≤ n) : Way M n (((b - a - 1) / 2 + 1) * (3 * (b - a)) + (b - a) * (3 * (b - a) + 1)) s (heapS M a b s) :=
  (way_heapB (b - a) a (by omega) _ s).trans (way_heapP a (b - a) (by omega) (b - a) _ (Nat.le_refl _))

theorem way_scanU (x y : Nat → Nat) (up : Bool) (hi lo : Nat) (hx : ∀ i, lo ≤ i → i < hi → x i < n ∧ y i < n) : ∀ (f i : Nat) (s : σ), lo ≤ i → Way M n ((scanU M x y up hi f i s).1 - i + 1) s (scanU M x y up hi f i s).2 ∧ i ≤ (scanU M x y up hi f i s).1 ∧ ((scanU M x y up hi f i s).1 ≤ hi ∨ (scanU M x y up hi f i s).1 = i)
  | 0, i, s, _ => ⟨.nil _ _, Nat.le_refl _, .inr rfl⟩
  | f + 1, i, s, hl => by
    unfold scanU
    split
    · rename_i hlt
      have hr := hx i hl hlt
      split
      · have ih := way_scanU x y up hi lo hx f (i + 1) (M.tick s (x i) (y i)) (by omega)
        exact ⟨((Way.tick1 s hr.1 hr.2).trans ih.1).mono (by omega), by omega, by omega⟩
      · exact ⟨(Way.tick1 s hr.1 hr.2).mono (by omega), Nat.le_refl _, .inr rfl⟩
    · exact ⟨.nil _ _, Nat.le_refl _, .inr rfl⟩
theorem way_scanD (x y : Nat → Nat) (up : Bool) (lo hi : Nat) (hx : ∀ j, lo ≤ j → j ≤ hi → x j < n ∧ y j < n) : ∀ (j : Nat) (s : σ), j ≤ hi → Way M n (j - (scanD M x y up lo j s).1 + 1) s (scanD M x y up lo j s).2 ∧ (scanD M x y up lo j s).1 ≤ j ∧ (lo ≤ (scanD M x y up lo j s).1 + 1 ∨ (scanD M x y up lo j s).1 = j)
  | 0, s, _ => ⟨.nil _ _, Nat.le_refl _, .inr rfl⟩
  | j + 1, s, hj => by
    unfold scanD
    split
    · rename_i hle
      have hr := hx (j + 1) hle hj
      split
      · have ih := way_scanD x y up lo hi hx j (M.tick s (x (j + 1)) (y (j + 1))) (by omega)
        exact ⟨((Way.tick1 s hr.1 hr.2).trans ih.1).mono (by omega), by omega, by omega⟩
      · exact ⟨(Way.tick1 s hr.1 hr.2).mono (by omega), Nat.le_refl _, .inr rfl⟩
    · exact ⟨.nil _ _, Nat.le_refl _, .inr rfl⟩

/-- the first and the second scan of a partition's loop -/
def parU (M : Mach σ) (a : Nat) (e : Bool) (i j : Nat) (s : σ) : Nat × σ := if e then scanU M (fun _ => a) (fun i => i) false (j + 1) (j + 1 - i) i s else scanU M (fun i => i) (fun _ => a) true (j + 1) (j + 1 - i) i s
def parD (M : Mach σ) (a : Nat) (e : Bool) (i j : Nat) (s : σ) : Nat × σ := if e then scanD M (fun _ => a) (fun j => j) true i j s else scanD M (fun j => j) (fun _ => a) false i j s
theorem partL_eq (a : Nat) (e : Bool) (f i j : Nat) (s : σ) : partL M a e (f + 1) i j s = (if (parD M a e (parU M a e i j s).1 j (parU M a e i j s).2).1 < (parU M a e i j s).1 then ((parU M a e i j s).1, (parD M a e (parU M a e i j s).1 j (parU M a e i j s).2).1, (parD M a e (parU M a e i j s).1 j (parU M a e i j s).2).2) else partL M a e f ((parU M a e i j s).1 + 1) ((parD M a e (parU M a e i j s).1 j (parU M a e i j s).2).1 - 1) (M.swap (parD M a e (parU M a e i j s).1 j (parU M a e i j s).2).2 (parU M a e i j s).1 (parD M a e (parU M a e i j s).1 j (parU M a e i j s).2).1)) := rfl
theorem way_parU (a : Nat) (e : Bool) (i j : Nat) (s : σ) (ha : a < n) (hj : j < n) : Way M n ((parU M a e i j s).1 - i + 1) s (parU M a e i j s).2 ∧ i ≤ (parU M a e i j s).1 ∧ ((parU M a e i j s).1 ≤ j + 1 ∨ (parU M a e i j s).1 = i) := by
  unfold parU
  cases e
  · exact way_scanU (fun i => i) (fun _ => a) true (j + 1) i (fun k _ hk => ⟨by omega, ha⟩) _ i s (Nat.le_refl _)
  · exact way_scanU (fun _ => a) (fun i => i) false (j + 1) i (fun k _ hk => ⟨ha, by omega⟩) _ i s (Nat.le_refl _)
theorem way_parD (a : Nat) (e : Bool) (i j : Nat) (s : σ) (ha : a < n) (hj : j < n) : Way M n (j - (parD M a e i j s).1 + 1) s (parD M a e i j s).2 ∧ (parD M a e i j s).1 ≤ j ∧ (i ≤ (parD M a e i j s).1 + 1 ∨ (parD M a e i j s).1 = j) := by
  unfold parD
  cases e
  · exact way_scanD (fun j => j) (fun _ => a) false i j (fun k _ hk => ⟨by omega, ha⟩) j s (Nat.le_refl _)
  · exact way_scanD (fun _ => a) (fun j => j) true i j (fun k _ hk => ⟨ha, by omega⟩) j s (Nat.le_refl _)
theorem way_partL (a b : Nat) (e : Bool) (hb : b ≤ n) : ∀ (f i j : Nat) (s : σ), a + 1 ≤ i → i ≤ j + 2 → i ≤ b → a ≤ j → j < b →
    Way M n (2 * (j + 2 - i) + 2) s (partL M a e f i j s).2.2 ∧ i ≤ (partL M a e f i j s).1 ∧ (partL M a e f i j s).1 ≤ b ∧ a ≤ (partL M a e f i j s).2.1 ∧ (partL M a e f i j s).2.1 < b
  | 0, i, j, s, h1, h2, h3, h4, h5 => ⟨.nil _ _, Nat.le_refl _, h3, h4, h5⟩
  | f + 1, i, j, s, h1, h2, h3, h4, h5 => by
    rw [partL_eq]
    have w1 := way_parU (M := M) (n := n) a e i j s (by omega) (by omega)
    generalize parU M a e i j s = r1 at *
    have w2 := way_parD (M := M) (n := n) a e r1.1 j r1.2 (by omega) (by omega)
    generalize parD M a e r1.1 j r1.2 = r2 at *
    split
    · exact ⟨(w1.1.trans w2.1).mono (by omega), by dsimp only; omega, by dsimp only; omega, by dsimp only; omega, by dsimp only; omega⟩
    · have ih := way_partL a b e hb f (r1.1 + 1) (r2.1 - 1) (M.swap r2.2 r1.1 r2.1) (by omega) (by omega) (by omega) (by omega) (by omega)
      exact ⟨(((w1.1.trans w2.1).trans (Way.swap1 _ (by omega) (by omega))).trans ih.1).mono (by omega), by omega, ih.2.2.1, ih.2.2.2.1, ih.2.2.2.2⟩

theorem way_partEq (a b pivot : Nat) (s : σ) (hap : a ≤ pivot) (hpb : pivot < b) (hb : b ≤ n) : Way M n (2 * (b - a) + 3) s (partEq M a b pivot s).2 ∧ a < (partEq M a b pivot s).1 ∧ (partEq M a b pivot s).1 ≤ b := by
  have h := way_partL (M := M) (n := n) a b true hb (b - a) (a + 1) (b - 1) (M.swap s a pivot) (Nat.le_refl _) (by omega) (by omega) (by omega) (by omega)
  exact ⟨((Way.swap1 s (by omega) (by omega)).trans h.1).mono (by omega), h.2.1, h.2.2.1⟩

theorem partit_eq (a b pivot : Nat) (hab : a < b) (s : σ) : partit M a b pivot s =
    (if (parD M a false (parU M a false (a + 1) (b - 1) (M.swap s a pivot)).1 (b - 1) (parU M a false (a + 1) (b - 1) (M.swap s a pivot)).2).1 < (parU M a false (a + 1) (b - 1) (M.swap s a pivot)).1 then
      ((parD M a false (parU M a false (a + 1) (b - 1) (M.swap s a pivot)).1 (b - 1) (parU M a false (a + 1) (b - 1) (M.swap s a pivot)).2).1, true, M.swap (parD M a false (parU M a false (a + 1) (b - 1) (M.swap s a pivot)).1 (b - 1) (parU M a false (a + 1) (b - 1) (M.swap s a pivot)).2).2 (parD M a false (parU M a false (a + 1) (b - 1) (M.swap s a pivot)).1 (b - 1) (parU M a false (a + 1) (b - 1) (M.swap s a pivot)).2).1 a)
    else
      ((partL M a false (b - a + 1) (a + 1) (b - 1) (M.swap s a pivot)).2.1, false, M.swap (partL M a false (b - a + 1) (a + 1) (b - 1) (M.swap s a pivot)).2.2 (partL M a false (b - a + 1) (a + 1) (b - 1) (M.swap s a pivot)).2.1 a)) := by
  rw [partL_eq]
  unfold partit
  have e1 : b - 1 + 1 = b := by omega
  have e2 : parU M a false (a + 1) (b - 1) (M.swap s a pivot) = scanU M (fun i => i) (fun _ => a) true b (b - (a + 1)) (a + 1) (M.swap s a pivot) := by unfold parU; rw [e1]; rfl
  rw [e2]
  generalize scanU M (fun i => i) (fun _ => a) true b (b - (a + 1)) (a + 1) (M.swap s a pivot) = r1
  have e3 : parD M a false r1.1 (b - 1) r1.2 = scanD M (fun j => j) (fun _ => a) false r1.1 (b - 1) r1.2 := rfl
  rw [e3]
  dsimp only
  generalize scanD M (fun j => j) (fun _ => a) false r1.1 (b - 1) r1.2 = r2
  by_cases h : r2.1 < r1.1
  · rw [if_pos h, if_pos h]
  · rw [if_neg h, if_neg h, if_neg h]
theorem way_partit (a b pivot : Nat) (s : σ) (hap : a ≤ pivot) (hpb : pivot < b) (hb : b ≤ n) : Way M n (2 * (b - a) + 4) s (partit M a b pivot s).2.2 ∧ a ≤ (partit M a b pivot s).1 ∧ (partit M a b pivot s).1 < b := by
  rw [partit_eq _ _ _ (by omega)]
  have w0 : Way M n 1 s (M.swap s a pivot) := Way.swap1 s (by omega) (by omega)
  split
  · have w1 := way_parU (M := M) (n := n) a false (a + 1) (b - 1) (M.swap s a pivot) (by omega) (by omega)
    generalize parU M a false (a + 1) (b - 1) (M.swap s a pivot) = r1 at *
    have w2 := way_parD (M := M) (n := n) a false r1.1 (b - 1) r1.2 (by omega) (by omega)
    generalize parD M a false r1.1 (b - 1) r1.2 = r2 at *
    exact ⟨(((w0.trans w1.1).trans w2.1).trans (Way.swap1 _ (by omega) (by omega))).mono (by omega), by dsimp only; omega, by dsimp only; omega⟩
  · have h := way_partL (M := M) (n := n) a b false hb (b - a + 1) (a + 1) (b - 1) (M.swap s a pivot) (Nat.le_refl _) (by omega) (by omega) (by omega) (by omega)
    generalize partL M a false (b - a + 1) (a + 1) (b - 1) (M.swap s a pivot) = r at *
    exact ⟨((w0.trans h.1).trans (Way.swap1 _ (by omega) (by omega))).mono (by omega), h.2.2.2.1, h.2.2.2.2⟩

theorem way_shiftU (b : Nat) (hb : b ≤ n) : ∀ (f j : Nat) (s : σ), Way M n (2 * f) s (shiftU M b f j s)
  | 0, _, s => .nil _ _
  | f + 1, j, s => by
    unfold shiftU
    split
    · split
      · exact ((Way.both s (by omega) (by omega)).trans (way_shiftU b hb f (j + 1) _)).mono (by omega)
      · exact (Way.tick1 s (by omega) (by omega)).mono (by omega)
    · exact .nil _ _

/-- one step of partialInsertionSort behind its scan -/
def partIS (M : Mach σ) (a b i : Nat) (s : σ) : σ :=
  let s1 := M.swap s i (i - 1)
  let s2 := if 2 ≤ i - a then insInner M 0 (i - 1) s1 else s1
  if 2 ≤ b - i then shiftU M b (b - (i + 1)) (i + 1) s2 else s2
theorem way_partIS (a b i : Nat) (s : σ) (hi : i < b) (h1 : 1 ≤ i) (hb : b ≤ n) : Way M n (2 * b) s (partIS M a b i s) := by
  unfold partIS
  dsimp only
  have w1 : Way M n 1 s (M.swap s i (i - 1)) := Way.swap1 s (by omega) (by omega)
  generalize M.swap s i (i - 1) = s1 at *
  have w2 : Way M n (2 * (i - 1)) s1 (if 2 ≤ i - a then insInner M 0 (i - 1) s1 else s1) := by
    split
    · exact (way_insInner 0 (i - 1) s1 (by omega)).mono (by omega)
    · exact .nil _ _
  generalize (if 2 ≤ i - a then insInner M 0 (i - 1) s1 else s1) = s2 at *
  have w3 : Way M n (2 * (b - (i + 1))) s2 (if 2 ≤ b - i then shiftU M b (b - (i + 1)) (i + 1) s2 else s2) := by
    split
    · exact way_shiftU b hb _ _ _
    · exact .nil _ _
  exact ((w1.trans w2).trans w3).mono (by omega)
theorem partI_eq (a b k i : Nat) (s : σ) : partI M a b (k + 1) i s =
    (if (scanU M (fun i => i) (fun i => i - 1) false b (b - i) i s).1 = b then (true, (scanU M (fun i => i) (fun i => i - 1) false b (b - i) i s).2)
     else if b - a < 50 then (false, (scanU M (fun i => i) (fun i => i - 1) false b (b - i) i s).2)
     else partI M a b k (scanU M (fun i => i) (fun i => i - 1) false b (b - i) i s).1 (partIS M a b (scanU M (fun i => i) (fun i => i - 1) false b (b - i) i s).1 (scanU M (fun i => i) (fun i => i - 1) false b (b - i) i s).2)) := rfl
theorem way_partI (a b : Nat) (hb : b ≤ n) : ∀ (k i : Nat) (s : σ), 1 ≤ i → i ≤ b → Way M n (k * (2 * b + 1) + (b - i)) s (partI M a b k i s).2
  | 0, _, s, _, _ => .nil _ _
  | k + 1, i, s, h1, h2 => by
    rw [partI_eq]
    have w1 := way_scanU (M := M) (n := n) (fun i => i) (fun i => i - 1) false b i (fun k _ hk => ⟨by omega, by omega⟩) (b - i) i s (Nat.le_refl _)
    generalize scanU M (fun i => i) (fun i => i - 1) false b (b - i) i s = r at *
    have h3 : (k + 1) * (2 * b + 1) = k * (2 * b + 1) + (2 * b + 1) := Nat.succ_mul _ _
    split
    · exact w1.1.mono (by omega)
    · split
      · exact w1.1.mono (by omega)
      · exact ((w1.1.trans (way_partIS a b r.1 r.2 (by omega) (by omega) hb)).trans (way_partI a b hb k r.1 _ (by omega) (by omega))).mono (by omega)

theorem way_ord2 (a b sw : Nat) (s : σ) (ha : a < n) (hb : b < n) : Way M n 1 s (ord2 M a b sw s).2.2.2 ∧ (((ord2 M a b sw s).1 = a ∧ (ord2 M a b sw s).2.1 = b) ∨ ((ord2 M a b sw s).1 = b ∧ (ord2 M a b sw s).2.1 = a)) ∧ (ord2 M a b sw s).2.2.1 ≤ sw + 1 := by
  unfold ord2
  split
  · exact ⟨Way.tick1 s hb ha, .inr ⟨rfl, rfl⟩, Nat.le_refl _⟩
  · exact ⟨Way.tick1 s hb ha, .inl ⟨rfl, rfl⟩, Nat.le_succ _⟩
theorem way_med (a b c sw : Nat) (s : σ) (ha : a < n) (hb : b < n) (hc : c < n) : Way M n 3 s (med M a b c sw s).2.2 ∧ ((med M a b c sw s).1 = a ∨ (med M a b c sw s).1 = b ∨ (med M a b c sw s).1 = c) ∧ (med M a b c sw s).2.1 ≤ sw + 3 := by
  unfold med
  dsimp only
  have w1 := way_ord2 (M := M) (n := n) a b sw s ha hb
  generalize ord2 M a b sw s = r1 at *
  have w2 := way_ord2 (M := M) (n := n) r1.2.1 c r1.2.2.1 r1.2.2.2 (by omega) hc
  generalize ord2 M r1.2.1 c r1.2.2.1 r1.2.2.2 = r2 at *
  have w3 := way_ord2 (M := M) (n := n) r1.1 r2.1 r2.2.2.1 r2.2.2.2 (by omega) (by omega)
  generalize ord2 M r1.1 r2.1 r2.2.2.1 r2.2.2.2 = r3 at *
  exact ⟨((w1.1.trans w2.1).trans w3.1).mono (by omega), by omega, by omega⟩
theorem way_chooseP (a b : Nat) (s : σ) (hab : a < b) (hb : b ≤ n) : Way M n 12 s (chooseP M a b s).2.2 ∧ a ≤ (chooseP M a b s).1 ∧ (chooseP M a b s).1 < b := by
  unfold chooseP
  dsimp only
  split
  · split
    · unfold medAdj
      have w1 := way_med (M := M) (n := n) (a + (b - a) / 4 * 1 - 1) (a + (b - a) / 4 * 1) (a + (b - a) / 4 * 1 + 1) 0 s (by omega) (by omega) (by omega)
      generalize med M (a + (b - a) / 4 * 1 - 1) (a + (b - a) / 4 * 1) (a + (b - a) / 4 * 1 + 1) 0 s = r1 at *
      have w2 := way_med (M := M) (n := n) (a + (b - a) / 4 * 2 - 1) (a + (b - a) / 4 * 2) (a + (b - a) / 4 * 2 + 1) r1.2.1 r1.2.2 (by omega) (by omega) (by omega)
      generalize med M (a + (b - a) / 4 * 2 - 1) (a + (b - a) / 4 * 2) (a + (b - a) / 4 * 2 + 1) r1.2.1 r1.2.2 = r2 at *
      have w3 := way_med (M := M) (n := n) (a + (b - a) / 4 * 3 - 1) (a + (b - a) / 4 * 3) (a + (b - a) / 4 * 3 + 1) r2.2.1 r2.2.2 (by omega) (by omega) (by omega)
      generalize med M (a + (b - a) / 4 * 3 - 1) (a + (b - a) / 4 * 3) (a + (b - a) / 4 * 3 + 1) r2.2.1 r2.2.2 = r3 at *
      have w4 := way_med (M := M) (n := n) r1.1 r2.1 r3.1 r3.2.1 r3.2.2 (by omega) (by omega) (by omega)
      generalize med M r1.1 r2.1 r3.1 r3.2.1 r3.2.2 = r4 at *
      exact ⟨(((w1.1.trans w2.1).trans w3.1).trans w4.1).mono (by omega), by omega, by omega⟩
    · have w1 := way_med (M := M) (n := n) (a + (b - a) / 4 * 1) (a + (b - a) / 4 * 2) (a + (b - a) / 4 * 3) 0 s (by omega) (by omega) (by omega)
      generalize med M (a + (b - a) / 4 * 1) (a + (b - a) / 4 * 2) (a + (b - a) / 4 * 3) 0 s = r1 at *
      exact ⟨w1.1.mono (by omega), by omega, by omega⟩
  · exact ⟨.nil _ _, by dsimp only; omega, by dsimp only; omega⟩
theorem way_revL : ∀ (f i j : Nat) (s : σ), j < n → Way M n (j + 1 - i) s (revL M f i j s)
  | 0, _, _, s, _ => .nil _ _
  | f + 1, i, j, s, hj => by
    unfold revL
    split
    · exact ((Way.swap1 s (by omega) hj).trans (way_revL f (i + 1) (j - 1) _ (by omega))).mono (by omega)
    · exact .nil _ _
theorem way_revR (a b : Nat) (s : σ) (hab : a < b) (hb : b ≤ n) : Way M n (b - a) s (revR M a b s) := (way_revL (b - a) a (b - 1) s (by omega)).mono (by omega)
/-- what is asked of the random numbers -/
def OthOk (oth : Nat → Nat → Nat) : Prop := ∀ l k, 8 ≤ l → oth l k < l
theorem way_breakP {oth : Nat → Nat → Nat} (ho : OthOk oth) (a b : Nat) (s : σ) (hb : b ≤ n) : Way M n 3 s (breakP M oth a b s) := by
  unfold breakP
  split
  · rename_i h8
    have h0 := ho (b - a) 0 h8
    have h1 := ho (b - a) 1 h8
    have h2 := ho (b - a) 2 h8
    dsimp only
    exact ((Way.swap1 s (by omega) (by omega)).trans (Way.swap1 _ (by omega) (by omega))).trans (Way.swap1 _ (by omega) (by omega))
  · exact .nil _ _
end
end Go.Proofs.Ytjammaglboehcaa

namespace Go.Proofs.Ytjammaglboehcaa
set_option linter.unusedVariables false

/-- From s to t by some questions and swaps. -/
def Rch {σ : Type} (M : Mach σ) (n : Nat) (s t : σ) : Prop := ∃ k, Way M n k s t
section
variable {σ : Type} {M : Mach σ} {n : Nat}
theorem Way.rch {k : Nat} {s t : σ} (h : Way M n k s t) : Rch M n s t := ⟨k, h⟩
theorem Rch.refl (s : σ) : Rch M n s s := ⟨0, .nil _ _⟩
theorem Rch.trans {s t u : σ} (h : Rch M n s t) (h' : Rch M n t u) : Rch M n s u := by
  obtain ⟨k, h⟩ := h; obtain ⟨k', h'⟩ := h'; exact ⟨_, h.trans h'⟩
theorem Rch.ok {ok : σ → Prop} (G : Guard M ok) {s t : σ} (h : Rch M n s t) : ok t → ok s := by
  obtain ⟨k, h⟩ := h; exact h.ok G
theorem Rch.keep {K : σ → Prop} (G : Keeps M n K) {s t : σ} (h : Rch M n s t) : K s → K t := by
  obtain ⟨k, h⟩ := h; exact h.keep G
end

section
variable {σ : Type} (M : Mach σ) (oth : Nat → Nat → Nat)
def rdA (a b : Nat) (wb : Bool) (s : σ) : σ := if wb then s else breakP M oth a b s
def rdR (a b : Nat) (c : Nat × Nat × σ) : σ := if c.2.1 = 2 then revR M a b c.2.2 else c.2.2
def rdV (a b : Nat) (c : Nat × Nat × σ) : Nat := if c.2.1 = 2 then b - 1 - (c.1 - a) else c.1
def rdH (c : Nat × Nat × σ) : Nat := if c.2.1 = 2 then 1 else c.2.1
def rdP (a b : Nat) (wb wp : Bool) (h : Nat) (s : σ) : Bool × σ := if wb = true ∧ wp = true ∧ h = 1 then partI M a b 5 (a + 1) s else (false, s)
/-- behind the question whether many are equal -/
def rdU (f a b lim pv : Nat) (t : σ) : σ :=
  if (partit M a b pv t).1 - a < b - (partit M a b pv t).1 then pdqL M oth f ((partit M a b pv t).1 + 1) b lim (decide ((b - a) / 8 ≤ (partit M a b pv t).1 - a)) (partit M a b pv t).2.1 (pdqL M oth f a (partit M a b pv t).1 lim true true (partit M a b pv t).2.2)
  else pdqL M oth f a (partit M a b pv t).1 lim (decide ((b - a) / 8 ≤ b - (partit M a b pv t).1)) (partit M a b pv t).2.1 (pdqL M oth f ((partit M a b pv t).1 + 1) b lim true true (partit M a b pv t).2.2)
def rdE (f a b lim : Nat) (wb wp : Bool) (pv : Nat) (t : σ) : σ := pdqL M oth f (partEq M a b pv t).1 b lim wb wp (partEq M a b pv t).2
/-- behind partialInsertionSort -/
def rdT (f a b lim : Nat) (wb wp : Bool) (pv : Nat) (s : σ) : σ :=
  if 0 < a ∧ M.less s (a - 1) pv = false then rdE M oth f a b lim wb wp pv (M.tick s (a - 1) pv)
  else rdU M oth f a b lim pv (if 0 < a then M.tick s (a - 1) pv else s)
def limN (lim : Nat) (wb : Bool) : Nat := if wb then lim else lim - 1
end

section
variable {σ : Type} {M : Mach σ} {oth : Nat → Nat → Nat} {n : Nat}
theorem pdqL_small {f a b lim : Nat} {wb wp : Bool} {s : σ} (hf : b - a ≤ f) (h : b - a ≤ 12) : pdqL M oth f a b lim wb wp s = insSort M a b s := by
  cases f with
  | zero =>
    show s = insOuter M a (b - (a + 1)) (a + 1) s
    rw [show b - (a + 1) = 0 by omega]; rfl
  | succ f => show (if b - a ≤ 12 then _ else _) = _; rw [if_pos h]
theorem pdqL_heap {f a b : Nat} {wb wp : Bool} {s : σ} (h : ¬ b - a ≤ 12) : pdqL M oth (f + 1) a b 0 wb wp s = heapS M a b s := by
  show (if b - a ≤ 12 then _ else _) = _; rw [if_neg h, if_pos rfl]
theorem pdqL_round {f a b lim : Nat} {wb wp : Bool} {s : σ} (h : ¬ b - a ≤ 12) (hl : ¬ lim = 0) : pdqL M oth (f + 1) a b lim wb wp s =
    if (rdP M a b wb wp (rdH (chooseP M a b (rdA M oth a b wb s))) (rdR M a b (chooseP M a b (rdA M oth a b wb s)))).1 = true then (rdP M a b wb wp (rdH (chooseP M a b (rdA M oth a b wb s))) (rdR M a b (chooseP M a b (rdA M oth a b wb s)))).2
    else rdT M oth f a b (limN lim wb) wb wp (rdV a b (chooseP M a b (rdA M oth a b wb s))) (rdP M a b wb wp (rdH (chooseP M a b (rdA M oth a b wb s))) (rdR M a b (chooseP M a b (rdA M oth a b wb s)))).2 := by
  show (if b - a ≤ 12 then _ else _) = _
  rw [if_neg h, if_neg hl]
  rfl

theorem way_rdA (ho : OthOk oth) (a b : Nat) (wb : Bool) (s : σ) (hb : b ≤ n) : Way M n 3 s (rdA M oth a b wb s) := by
  unfold rdA
  split
  · exact .nil _ _
  · exact way_breakP ho a b s hb
theorem way_rdR (a b : Nat) (c : Nat × Nat × σ) (hab : a < b) (hb : b ≤ n) : Way M n (b - a) c.2.2 (rdR M a b c) := by
  unfold rdR
  split
  · exact way_revR a b _ hab hb
  · exact .nil _ _
theorem rdV_in (a b : Nat) (c : Nat × Nat × σ) (h1 : a ≤ c.1) (h2 : c.1 < b) : a ≤ rdV a b c ∧ rdV a b c < b := by
  unfold rdV
  split <;> omega
theorem way_rdP (a b : Nat) (wb wp : Bool) (h : Nat) (s : σ) (hab : a < b) (hb : b ≤ n) : Way M n (5 * (2 * b + 1) + (b - a)) s (rdP M a b wb wp h s).2 := by
  unfold rdP
  split
  · exact (way_partI a b hb 5 (a + 1) s (by omega) (by omega)).mono (by omega)
  · exact .nil _ _

def costC (n : Nat) : Nat := 20 * n + 300
def costP (n m : Nat) : Nat := (2 * m + 1) * costC n
theorem costP_ge (n m : Nat) : costC n ≤ costP n m := by
  unfold costP
  exact Nat.le_mul_of_pos_left _ (by omega)
theorem costP_two (n x y m c : Nat) (h : x + y + 1 ≤ m) (hc : c ≤ costC n) : c + costP n x + costP n y ≤ costP n m := by
  have h1 : costP n x + costP n y + costC n = (2 * (x + y + 1) + 1) * costC n := by
    unfold costP
    rw [← Nat.add_mul]
    have h2 : (2 * x + 1 + (2 * y + 1)) * costC n + costC n = (2 * x + 1 + (2 * y + 1) + 1) * costC n := (Nat.succ_mul _ _).symm
    rw [h2]; congr 1; omega
  have h3 : (2 * (x + y + 1) + 1) * costC n ≤ costP n m := Nat.mul_le_mul_right _ (by omega)
  omega
theorem costP_one (n x m c : Nat) (h : x + 1 ≤ m) (hc : c ≤ costC n) : c + costP n x ≤ costP n m := by
  have := costP_two n x 0 m c (by omega) hc
  have h0 : costP n 0 = costC n := by unfold costP; omega
  omega

theorem way_pdqL (ho : OthOk oth) : ∀ (f a b lim : Nat) (wb wp : Bool) (s : σ), a ≤ b → b ≤ n → Way M n (costP n (b - a)) s (pdqL M oth f a b lim wb wp s)
  | 0, a, b, lim, wb, wp, s, _, _ => .nil _ _
  | f + 1, a, b, lim, wb, wp, s, hab, hb => by
    by_cases h : b - a ≤ 12
    · show Way M n _ s (if b - a ≤ 12 then _ else _)
      rw [if_pos h]
      refine (way_insSort a b s hb).mono (Nat.le_trans ?_ (costP_ge n (b - a)))
      have h1 : (b - a - 1) * (2 * (b - a)) ≤ 11 * 24 := Nat.mul_le_mul (by omega) (by omega)
      unfold costC
      omega
    · by_cases hl : lim = 0
      · subst hl
        rw [pdqL_heap h]
        refine (way_heapS a b s hab hb).mono ?_
        have h1 : ((b - a - 1) / 2 + 1) * (3 * (b - a)) ≤ (b - a) * (3 * (b - a)) := Nat.mul_le_mul (by omega) (Nat.le_refl _)
        have h2 : (b - a) * (3 * (b - a)) + (b - a) * (3 * (b - a) + 1) = (b - a) * (3 * (b - a) + (3 * (b - a) + 1)) := (Nat.mul_add _ _ _).symm
        have h3 : (b - a) * (3 * (b - a) + (3 * (b - a) + 1)) ≤ (2 * (b - a) + 1) * costC n := Nat.mul_le_mul (by omega) (by unfold costC; omega)
        unfold costP
        omega
      · rw [pdqL_round h hl]
        have w1 := way_rdA (M := M) (n := n) ho a b wb s hb
        generalize rdA M oth a b wb s = s1 at *
        have w2 := way_chooseP (M := M) (n := n) a b s1 (by omega) hb
        generalize chooseP M a b s1 = c at *
        have w3 := way_rdR (M := M) (n := n) a b c (by omega) hb
        generalize rdR M a b c = s2 at *
        have hpv := rdV_in a b c w2.2.1 w2.2.2
        generalize rdV a b c = pv at *
        have w4 := way_rdP (M := M) (n := n) a b wb wp (rdH c) s2 (by omega) hb
        generalize rdP M a b wb wp (rdH c) s2 = p at *
        have w5 := ((w1.trans w2.1).trans w3).trans w4
        split
        · exact w5.mono (Nat.le_trans (by unfold costC; omega) (costP_ge n (b - a)))
        · unfold rdT
          split
          · rename_i ha
            unfold rdE
            have w6 := way_partEq (M := M) (n := n) a b pv (M.tick p.2 (a - 1) pv) hpv.1 hpv.2 hb
            generalize partEq M a b pv (M.tick p.2 (a - 1) pv) = r at *
            have w7 := way_pdqL ho f r.1 b (limN lim wb) wb wp r.2 w6.2.2 hb
            have hc := costP_one n (b - r.1) (b - a) (3 + 12 + (b - a) + (5 * (2 * b + 1) + (b - a)) + 1 + (2 * (b - a) + 3)) (by omega) (by unfold costC; omega)
            exact (((w5.trans (Way.tick1 _ (by omega) (by omega))).trans w6.1).trans w7).mono (by omega)
          · have w6 : Way M n 1 p.2 (if 0 < a then M.tick p.2 (a - 1) pv else p.2) := by
              split
              · exact Way.tick1 _ (by omega) (by omega)
              · exact .nil _ _
            generalize (if 0 < a then M.tick p.2 (a - 1) pv else p.2) = t at *
            unfold rdU
            have w7 := way_partit (M := M) (n := n) a b pv t hpv.1 hpv.2 hb
            generalize partit M a b pv t = r at *
            have hc := costP_two n (r.1 - a) (b - (r.1 + 1)) (b - a) (3 + 12 + (b - a) + (5 * (2 * b + 1) + (b - a)) + 1 + (2 * (b - a) + 4)) (by omega) (by unfold costC; omega)
            split
            · have w8 := way_pdqL ho f a r.1 (limN lim wb) true true r.2.2 w7.2.1 (by omega)
              have w9 := way_pdqL ho f (r.1 + 1) b (limN lim wb) (decide ((b - a) / 8 ≤ r.1 - a)) r.2.1 (pdqL M oth f a r.1 (limN lim wb) true true r.2.2) (by omega) hb
              exact ((((w5.trans w6).trans w7.1).trans w8).trans w9).mono (by omega)
            · have w8 := way_pdqL ho f (r.1 + 1) b (limN lim wb) true true r.2.2 (by omega) hb
              have w9 := way_pdqL ho f a r.1 (limN lim wb) (decide ((b - a) / 8 ≤ b - r.1)) r.2.1 (pdqL M oth f (r.1 + 1) b (limN lim wb) true true r.2.2) w7.2.1 (by omega)
              exact ((((w5.trans w6).trans w7.1).trans w8).trans w9).mono (by omega)
theorem way_rdE (ho : OthOk oth) (f a b lim : Nat) (wb wp : Bool) (pv : Nat) (t : σ) (h1 : a ≤ pv) (h2 : pv < b) (hb : b ≤ n) : Rch M n (partEq M a b pv t).2 (rdE M oth f a b lim wb wp pv t) :=
  (way_pdqL ho f _ b lim wb wp _ (way_partEq (M := M) (n := n) a b pv t h1 h2 hb).2.2 hb).rch
theorem way_rdU (ho : OthOk oth) (f a b lim pv : Nat) (t : σ) (h1 : a ≤ pv) (h2 : pv < b) (hb : b ≤ n) : Rch M n (partit M a b pv t).2.2 (rdU M oth f a b lim pv t) := by
  unfold rdU
  have w7 := way_partit (M := M) (n := n) a b pv t h1 h2 hb
  generalize partit M a b pv t = r at *
  split
  · exact (way_pdqL ho f a r.1 lim true true r.2.2 w7.2.1 (by omega)).rch.trans (way_pdqL ho f (r.1 + 1) b lim _ _ _ (by omega) hb).rch
  · exact (way_pdqL ho f (r.1 + 1) b lim true true r.2.2 (by omega) hb).rch.trans (way_pdqL ho f a r.1 lim _ _ _ w7.2.1 (by omega)).rch
theorem way_rdT (ho : OthOk oth) (f a b lim : Nat) (wb wp : Bool) (pv : Nat) (s : σ) (h1 : a ≤ pv) (h2 : pv < b) (hb : b ≤ n) : Rch M n s (rdT M oth f a b lim wb wp pv s) := by
  unfold rdT
  split
  · exact ((Way.tick1 s (by omega) (by omega)).rch.trans (way_partEq (M := M) (n := n) a b pv _ h1 h2 hb).1.rch).trans (way_rdE ho f a b lim wb wp pv _ h1 h2 hb)
  · have w6 : Way M n 1 s (if 0 < a then M.tick s (a - 1) pv else s) := by
      split
      · exact Way.tick1 _ (by omega) (by omega)
      · exact .nil _ _
    exact (w6.rch.trans (way_partit (M := M) (n := n) a b pv _ h1 h2 hb).1.rch).trans (way_rdU ho f a b lim pv _ h1 h2 hb)
theorem way_pdqS (ho : OthOk oth) (s : σ) : Way M n (costP n n) s (pdqS M oth n s) := by
  unfold pdqS
  split
  · exact .nil _ _
  · exact way_pdqL ho n 0 n _ true true s (Nat.zero_le _) (Nat.le_refl _)
end
end Go.Proofs.Ytjammaglboehcaa

namespace Go.Proofs.Ytjammaglboehcaa
set_option linter.unusedVariables false

/-! ### The random numbers -/
def rnd (l : Nat) : Nat → Nat
  | 0 => l
  | k + 1 => Sort.xorNextN (rnd l k)
theorem rnd_lt (l : Nat) (h : l < 18446744073709551616) : ∀ k, rnd l k < 18446744073709551616
  | 0 => h
  | k + 1 => Sort.xorNextN_lt _ (rnd_lt l h k)
def othR (l k : Nat) : Nat := if l ≤ (rnd l (k + 1)) &&& (1 <<< Sort.bitsLen l - 1) then ((rnd l (k + 1)) &&& (1 <<< Sort.bitsLen l - 1)) - l else (rnd l (k + 1)) &&& (1 <<< Sort.bitsLen l - 1)
theorem othR_ok : OthOk othR := by
  intro l k h8
  unfold othR
  have h1 : (rnd l (k + 1)) &&& (1 <<< Sort.bitsLen l - 1) ≤ 1 <<< Sort.bitsLen l - 1 := Nat.and_le_right
  have h2 : 1 <<< Sort.bitsLen l ≤ 2 * l := by rw [Nat.one_shiftLeft]; exact Sort.two_pow_bitsLen_le (by omega)
  generalize (rnd l (k + 1)) &&& (1 <<< Sort.bitsLen l - 1) = o at *
  split <;> omega
/-- so many of the three swaps are left -/
def brkR {σ : Type} (M : Mach σ) (oth : Nat → Nat → Nat) (a l x : Nat) : Nat → Nat → σ → σ
  | 0, _, s => s
  | g + 1, k, s => brkR M oth a l x g (k + 1) (M.swap s (x + k) (a + oth l k))
theorem way_brkR {σ : Type} {M : Mach σ} {n : Nat} {oth : Nat → Nat → Nat} (ho : OthOk oth) (a l x : Nat) (h8 : 8 ≤ l) (hn : a + l ≤ n) : ∀ (g k : Nat) (s : σ), x + k + g ≤ n → Way M n g s (brkR M oth a l x g k s)
  | 0, _, s, _ => .nil _ _
  | g + 1, k, s, h => ((Way.swap1 s (by omega) (by have := ho l k h8; omega)).trans (way_brkR ho a l x h8 hn g (k + 1) _ (by omega))).mono (by omega)

end Go.Proofs.Ytjammaglboehcaa

namespace Go.Proofs.Ytjammaglboehcaa
set_option linter.unusedVariables false

/-- A machine that works on an array: Less asks lt of two elements, a question changes nothing, Swap swaps. -/
structure ArrV {σ α : Type} [Inhabited α] (M : Mach σ) (lt : α → α → Bool) (v : σ → Array α) : Prop where
  less : ∀ s i j, M.less s i j = lt (v s)[i]! (v s)[j]!
  tick : ∀ s i j, v (M.tick s i j) = v s
  swap : ∀ s i j, v (M.swap s i j) = Sort.swp (v s) i j

section
variable {σ α : Type} [Inhabited α] {M : Mach σ} {lt : α → α → Bool} {v : σ → Array α}

theorem arr_insInner (V : ArrV M lt v) (a : Nat) : ∀ (j : Nat) (s : σ), v (insInner M a j s) = Sort.insInner lt a j (v s)
  | 0, s => rfl
  | j + 1, s => by
    unfold insInner Sort.insInner
    by_cases h : a < j + 1
    · rw [if_pos h, V.less]
      cases hv : lt (v s)[j + 1]! (v s)[j]!
      · rw [if_neg (by simp), if_neg (by simp), V.tick]
      · rw [if_pos rfl, if_pos (by simp; omega), arr_insInner V a j, V.swap, V.tick]
    · rw [if_neg h, if_neg (by simp; omega)]
theorem arr_insOuter (V : ArrV M lt v) (a : Nat) : ∀ (k i : Nat) (s : σ), v (insOuter M a k i s) = Sort.insOuter lt a (i + k) i (v s)
  | 0, i, s => by unfold Sort.insOuter; rw [if_neg (by omega)]; rfl
  | k + 1, i, s => by
    unfold Sort.insOuter
    rw [if_pos (by omega)]
    show v (insOuter M a k (i + 1) (insInner M a i s)) = _
    rw [arr_insOuter V a k (i + 1), arr_insInner V, show i + 1 + k = i + (k + 1) by omega]
theorem arr_insSort (V : ArrV M lt v) (a b : Nat) (s : σ) : v (insSort M a b s) = Sort.insertionSort lt (v s) a b := by
  unfold insSort Sort.insertionSort
  rw [arr_insOuter V]
  rcases Nat.lt_or_ge a b with h | h
  · rw [show a + 1 + (b - (a + 1)) = b by omega]
  · rw [show a + 1 + (b - (a + 1)) = a + 1 by omega]
    unfold Sort.insOuter
    rw [if_neg (by omega), if_neg (by omega)]

theorem arr_siftD (V : ArrV M lt v) (hi first : Nat) : ∀ (f root : Nat) (s : σ), hi - root ≤ f → v (siftD M hi first f root s) = Sort.siftDown lt hi first root (v s)
  | 0, root, s, h => by unfold Sort.siftDown; rw [dif_pos (by omega)]; rfl
  | f + 1, root, s, h => by
    unfold siftD Sort.siftDown
    by_cases h0 : hi ≤ 2 * root + 1
    · rw [if_pos h0, dif_pos (by omega)]
    · rw [if_neg h0, dif_neg (by omega)]
      by_cases h1 : 2 * root + 2 < hi
      · rw [if_pos h1, V.less]
        have e0 : (v s)[first + (2 * root + 1) + 1]! = (v s)[first + (2 * root + 2)]! := rfl
        rw [e0]
        dsimp only
        cases hv : lt (v s)[first + (2 * root + 1)]! (v s)[first + (2 * root + 2)]!
        · rw [if_neg (show ¬ (false = true) by simp), if_neg (show ¬ ((decide (2 * root + 1 + 1 < hi) && false) = true) by simp), V.less, V.tick]
          cases hw : lt (v s)[first + root]! (v s)[first + (2 * root + 1)]!
          · rw [if_neg (by simp), if_pos (by simp), V.tick, V.tick]
          · rw [if_pos rfl, if_neg (by simp), arr_siftD V hi first f _ _ (by omega), V.swap, V.tick, V.tick]
        · rw [if_pos rfl, if_pos (show (decide (2 * root + 1 + 1 < hi) && true) = true by simp; omega), V.less, V.tick]
          cases hw : lt (v s)[first + root]! (v s)[first + (2 * root + 2)]!
          · rw [if_neg (by simp), if_pos (by simp), V.tick, V.tick]
          · rw [if_pos rfl, if_neg (by simp), dif_pos h1, arr_siftD V hi first f _ _ (by omega), V.swap, V.tick, V.tick]
      · rw [if_neg h1, if_neg (show ¬ ((decide (2 * root + 1 + 1 < hi) && lt (v s)[first + (2 * root + 1)]! (v s)[first + (2 * root + 1) + 1]!) = true) by simp; omega), V.less]
        cases hw : lt (v s)[first + root]! (v s)[first + (2 * root + 1)]!
        · rw [if_neg (by simp), if_pos (by simp), V.tick]
        · rw [if_pos rfl, if_neg (by simp), arr_siftD V hi first f _ _ (by omega), V.swap, V.tick]
theorem arr_heapB (V : ArrV M lt v) (hi first : Nat) : ∀ (k : Nat) (s : σ), v (heapB M hi first k s) = Sort.heapBuild lt hi first k (v s)
  | 0, s => rfl
  | k + 1, s => by
    show v (heapB M hi first k (siftD M hi first hi k s)) = Sort.heapBuild lt hi first k (Sort.siftDown lt hi first k (v s))
    rw [arr_heapB V hi first k, arr_siftD V _ _ _ _ _ (by omega)]
theorem arr_heapP (V : ArrV M lt v) (first : Nat) : ∀ (k : Nat) (s : σ), v (heapP M first k s) = Sort.heapPop lt first k (v s)
  | 0, s => rfl
  | k + 1, s => by
    show v (heapP M first k (siftD M k first k 0 (M.swap s first (first + k)))) = Sort.heapPop lt first k (Sort.siftDown lt k first 0 (Sort.swp (v s) first (first + k)))
    rw [arr_heapP V first k, arr_siftD V _ _ _ _ _ (by omega), V.swap]
theorem arr_heapS (V : ArrV M lt v) (a b : Nat) (s : σ) : v (heapS M a b s) = Sort.heapSort lt (v s) a b := by
  unfold heapS Sort.heapSort
  rw [arr_heapP V, arr_heapB V]

/-- a scan upwards: p tells of the element whether it goes on -/
theorem arr_scanU (V : ArrV M lt v) (x y : Nat → Nat) (up : Bool) (p : α → Bool) (j : Nat) : ∀ (f i : Nat) (s : σ), (∀ k, (lt (v s)[x k]! (v s)[y k]! == up) = p (v s)[k]!) → j + 1 - i ≤ f →
    (scanU M x y up (j + 1) f i s).1 = Sort.scanUp p (v s) j i ∧ v (scanU M x y up (j + 1) f i s).2 = v s
  | 0, i, s, _, h => by unfold Sort.scanUp; rw [if_neg (by simp; omega)]; exact ⟨rfl, rfl⟩
  | f + 1, i, s, hp, h => by
    unfold scanU Sort.scanUp
    by_cases h1 : i < j + 1
    · rw [if_pos h1, V.less]
      have h2 := hp i
      cases hv : p (v s)[i]!
      · rw [hv] at h2
        rw [if_neg (fun e => by rw [e] at h2; simp at h2), if_neg (by simp)]
        exact ⟨rfl, V.tick _ _ _⟩
      · rw [hv] at h2
        rw [if_pos (by simpa using h2), if_pos (by simp; omega)]
        have ih := arr_scanU V x y up p j f (i + 1) (M.tick s (x i) (y i)) (by rw [V.tick]; exact hp) (by omega)
        rw [V.tick] at ih
        exact ih
    · rw [if_neg h1, if_neg (by simp; omega)]
      exact ⟨rfl, rfl⟩
theorem arr_scanD (V : ArrV M lt v) (x y : Nat → Nat) (up : Bool) (p : α → Bool) (lo : Nat) : ∀ (j : Nat) (s : σ), (∀ k, (lt (v s)[x k]! (v s)[y k]! == up) = p (v s)[k]!) →
    (scanD M x y up lo j s).1 = Sort.scanDown p (v s) lo j ∧ v (scanD M x y up lo j s).2 = v s
  | 0, s, _ => ⟨rfl, rfl⟩
  | j + 1, s, hp => by
    unfold scanD Sort.scanDown
    by_cases h1 : lo ≤ j + 1
    · rw [if_pos h1, V.less]
      have h2 := hp (j + 1)
      cases hv : p (v s)[j + 1]!
      · rw [hv] at h2
        rw [if_neg (fun e => by rw [e] at h2; simp at h2), if_neg (by simp)]
        exact ⟨rfl, V.tick _ _ _⟩
      · rw [hv] at h2
        rw [if_pos (by simpa using h2), if_pos (by simp; omega)]
        have ih := arr_scanD V x y up p lo j (M.tick s (x (j + 1)) (y (j + 1))) (by rw [V.tick]; exact hp)
        rw [V.tick] at ih
        exact ih
    · rw [if_neg h1, if_neg (by simp; omega)]
      exact ⟨rfl, rfl⟩
theorem arr_scanS (V : ArrV M lt v) (b : Nat) : ∀ (f i : Nat) (s : σ), b - i ≤ f →
    (scanU M (fun i => i) (fun i => i - 1) false b f i s).1 = Sort.scanSorted lt (v s) b i ∧ v (scanU M (fun i => i) (fun i => i - 1) false b f i s).2 = v s
  | 0, i, s, h => by unfold Sort.scanSorted; rw [if_neg (by simp; omega)]; exact ⟨rfl, rfl⟩
  | f + 1, i, s, h => by
    unfold scanU Sort.scanSorted
    by_cases h1 : i < b
    · rw [if_pos h1, V.less]
      cases hv : lt (v s)[i]! (v s)[i - 1]!
      · rw [if_pos rfl, if_pos (by simp; omega)]
        have ih := arr_scanS V b f (i + 1) (M.tick s i (i - 1)) (by omega)
        rw [V.tick] at ih
        exact ih
      · rw [if_neg (by simp), if_neg (by simp)]
        exact ⟨rfl, V.tick _ _ _⟩
    · rw [if_neg h1, if_neg (by simp; omega)]
      exact ⟨rfl, rfl⟩

theorem arr_parU (V : ArrV M lt v) (a i j : Nat) (s : σ) : ((parU M a false i j s).1 = Sort.scanUp (fun x => lt x (v s)[a]!) (v s) j i ∧ v (parU M a false i j s).2 = v s) ∧ ((parU M a true i j s).1 = Sort.scanUp (fun x => !lt (v s)[a]! x) (v s) j i ∧ v (parU M a true i j s).2 = v s) := by
  unfold parU
  exact ⟨arr_scanU V _ _ true _ j (j + 1 - i) i s (fun k => by cases lt (v s)[k]! (v s)[a]! <;> rfl) (Nat.le_refl _), arr_scanU V _ _ false _ j (j + 1 - i) i s (fun k => by cases lt (v s)[a]! (v s)[k]! <;> rfl) (Nat.le_refl _)⟩
theorem arr_parD (V : ArrV M lt v) (a i j : Nat) (s : σ) : ((parD M a false i j s).1 = Sort.scanDown (fun x => !lt x (v s)[a]!) (v s) i j ∧ v (parD M a false i j s).2 = v s) ∧ ((parD M a true i j s).1 = Sort.scanDown (fun x => lt (v s)[a]! x) (v s) i j ∧ v (parD M a true i j s).2 = v s) := by
  unfold parD
  exact ⟨arr_scanD V _ _ false _ i j s (fun k => by cases lt (v s)[k]! (v s)[a]! <;> rfl), arr_scanD V _ _ true _ i j s (fun k => by cases lt (v s)[a]! (v s)[k]! <;> rfl)⟩

theorem arr_partL (V : ArrV M lt v) (a : Nat) : ∀ (f i j : Nat) (s : σ), j + 1 - i + 1 ≤ f → ((partL M a false f i j s).2.1 = (Sort.partLoop lt a i j (v s)).1 ∧ v (partL M a false f i j s).2.2 = (Sort.partLoop lt a i j (v s)).2) ∧ ((partL M a true f i j s).1 = (Sort.partEqLoop lt a i j (v s)).1 ∧ v (partL M a true f i j s).2.2 = (Sort.partEqLoop lt a i j (v s)).2)
  | 0, i, j, s, h => by omega
  | f + 1, i, j, s, h => by
    constructor
    · rw [partL_eq, Sort.partLoop_eq]
      have h1 := (arr_parU V a i j s).1
      generalize parU M a false i j s = r1 at *
      have h2 := (arr_parD V a r1.1 j r1.2).1
      rw [h1.2, h1.1] at h2
      generalize hr2 : parD M a false r1.1 j r1.2 = r2 at *
      rw [h1.1] at hr2
      rw [hr2] at h2
      rw [h1.1, ← h2.1]
      by_cases hlt : r2.1 < Sort.scanUp (fun x => lt x (v s)[a]!) (v s) j i
      · rw [if_pos hlt, if_pos hlt]
        exact ⟨rfl, h2.2⟩
      · rw [if_neg hlt, if_neg hlt]
        have hle := Sort.scanUp_ge (fun x => lt x (v s)[a]!) (v s) j i
        have hle2 := Sort.scanDown_le (fun x => !lt x (v s)[a]!) (v s) (Sort.scanUp (fun x => lt x (v s)[a]!) (v s) j i) j
        rw [← h2.1] at hle2
        have ih := (arr_partL V a f (Sort.scanUp (fun x => lt x (v s)[a]!) (v s) j i + 1) (r2.1 - 1) (M.swap r2.2 (Sort.scanUp (fun x => lt x (v s)[a]!) (v s) j i) r2.1) (by omega)).1
        rw [V.swap, h2.2] at ih
        exact ih
    · rw [partL_eq, Sort.partEqLoop_eq]
      have h1 := (arr_parU V a i j s).2
      generalize parU M a true i j s = r1 at *
      have h2 := (arr_parD V a r1.1 j r1.2).2
      rw [h1.2, h1.1] at h2
      generalize hr2 : parD M a true r1.1 j r1.2 = r2 at *
      rw [h1.1] at hr2
      rw [hr2] at h2
      rw [h1.1, ← h2.1]
      by_cases hlt : r2.1 < Sort.scanUp (fun x => !lt (v s)[a]! x) (v s) j i
      · rw [if_pos hlt, if_pos hlt]
        exact ⟨rfl, h2.2⟩
      · rw [if_neg hlt, if_neg hlt]
        have hle := Sort.scanUp_ge (fun x => !lt (v s)[a]! x) (v s) j i
        have hle2 := Sort.scanDown_le (fun x => lt (v s)[a]! x) (v s) (Sort.scanUp (fun x => !lt (v s)[a]! x) (v s) j i) j
        rw [← h2.1] at hle2
        have ih := (arr_partL V a f (Sort.scanUp (fun x => !lt (v s)[a]! x) (v s) j i + 1) (r2.1 - 1) (M.swap r2.2 (Sort.scanUp (fun x => !lt (v s)[a]! x) (v s) j i) r2.1) (by omega)).2
        rw [V.swap, h2.2] at ih
        exact ih

theorem arr_partEq (V : ArrV M lt v) (a b pivot : Nat) (hab : a < b) (s : σ) : (partEq M a b pivot s).1 = (Sort.partitionEqual lt (v s) a b pivot).1 ∧ v (partEq M a b pivot s).2 = (Sort.partitionEqual lt (v s) a b pivot).2 := by
  unfold partEq Sort.partitionEqual
  have h := (arr_partL V a (b - a) (a + 1) (b - 1) (M.swap s a pivot) (by omega)).2
  rw [V.swap] at h
  exact h
theorem arr_partit (V : ArrV M lt v) (a b pivot : Nat) (hab : a < b) (s : σ) : (partit M a b pivot s).1 = (Sort.partition lt (v s) a b pivot).1 ∧ (partit M a b pivot s).2.1 = (Sort.partition lt (v s) a b pivot).2.1 ∧ v (partit M a b pivot s).2.2 = (Sort.partition lt (v s) a b pivot).2.2 := by
  unfold Sort.partition
  dsimp only
  have h1 := (arr_parU V a (a + 1) (b - 1) (M.swap s a pivot)).1
  have e2 : parU M a false (a + 1) (b - 1) (M.swap s a pivot) = scanU M (fun i => i) (fun _ => a) true b (b - (a + 1)) (a + 1) (M.swap s a pivot) := by unfold parU; rw [show b - 1 + 1 = b by omega]; rfl
  rw [e2, V.swap] at h1
  unfold partit
  generalize scanU M (fun i => i) (fun _ => a) true b (b - (a + 1)) (a + 1) (M.swap s a pivot) = r1 at *
  have h2 := (arr_parD V a r1.1 (b - 1) r1.2).1
  change ((scanD M (fun j => j) (fun _ => a) false r1.1 (b - 1) r1.2).1 = _ ∧ v (scanD M (fun j => j) (fun _ => a) false r1.1 (b - 1) r1.2).2 = _) at h2
  dsimp only
  generalize scanD M (fun j => j) (fun _ => a) false r1.1 (b - 1) r1.2 = r2 at *
  rw [h1.2] at h2
  rw [h1.1] at h2
  have hle := Sort.scanUp_ge (fun x => lt x (Sort.swp (v s) a pivot)[a]!) (Sort.swp (v s) a pivot) (b - 1) (a + 1)
  have hle2 := Sort.scanDown_le (fun x => !lt x (Sort.swp (v s) a pivot)[a]!) (Sort.swp (v s) a pivot) (Sort.scanUp (fun x => lt x (Sort.swp (v s) a pivot)[a]!) (Sort.swp (v s) a pivot) (b - 1) (a + 1)) (b - 1)
  rw [← h2.1] at hle2
  rw [← h2.1, ← h1.1]
  rw [← h1.1] at hle
  by_cases hlt : r2.1 < r1.1
  · rw [if_pos hlt, if_pos hlt]
    dsimp only
    rw [V.swap, h2.2]
    exact ⟨rfl, rfl, rfl⟩
  · rw [if_neg hlt, if_neg hlt]
    have h := (arr_partL V a (b - a) (r1.1 + 1) (r2.1 - 1) (M.swap r2.2 r1.1 r2.1) (by omega)).1
    rw [V.swap, h2.2] at h
    dsimp only
    rw [V.swap, h.1, h.2]
    exact ⟨rfl, rfl, rfl⟩

theorem arr_shiftD (V : ArrV M lt v) : ∀ (j : Nat) (s : σ), v (insInner M 0 j s) = Sort.shiftDown lt j (v s)
  | 0, s => rfl
  | j + 1, s => by
    unfold insInner Sort.shiftDown
    rw [if_pos (Nat.succ_pos j), V.less]
    cases hv : lt (v s)[j + 1]! (v s)[j]!
    · rw [if_neg (by simp), if_pos (by simp), V.tick]
    · rw [if_pos rfl, if_neg (by simp), arr_shiftD V j, V.swap, V.tick]
theorem arr_shiftU (V : ArrV M lt v) (b : Nat) : ∀ (f j : Nat) (s : σ), b - j ≤ f → v (shiftU M b f j s) = Sort.shiftUp lt b j (v s)
  | 0, j, s, h => by unfold Sort.shiftUp; rw [if_neg (by omega)]; rfl
  | f + 1, j, s, h => by
    unfold shiftU Sort.shiftUp
    by_cases h1 : j < b
    · rw [if_pos h1, if_pos h1, V.less]
      cases hv : lt (v s)[j]! (v s)[j - 1]!
      · rw [if_neg (by simp), if_pos (by simp), V.tick]
      · rw [if_pos rfl, if_neg (by simp), arr_shiftU V b f _ _ (by omega), V.swap, V.tick]
    · rw [if_neg h1, if_neg h1]
theorem arr_partI (V : ArrV M lt v) (a b : Nat) : ∀ (k i : Nat) (s : σ), (partI M a b k i s).1 = (Sort.partialIns lt a b k i (v s)).2 ∧ v (partI M a b k i s).2 = (Sort.partialIns lt a b k i (v s)).1
  | 0, _, s => ⟨rfl, rfl⟩
  | k + 1, i, s => by
    rw [partI_eq]
    unfold Sort.partialIns
    dsimp only
    have h1 := arr_scanS V b (b - i) i s (Nat.le_refl _)
    generalize scanU M (fun i => i) (fun i => i - 1) false b (b - i) i s = r at *
    rw [← h1.1]
    by_cases hb : r.1 = b
    · rw [if_pos hb, if_pos hb]; exact ⟨rfl, h1.2⟩
    · rw [if_neg hb, if_neg hb]
      by_cases h50 : b - a < 50
      · rw [if_pos h50, if_pos h50]; exact ⟨rfl, h1.2⟩
      · rw [if_neg h50, if_neg h50]
        have h2 : v (partIS M a b r.1 r.2) = (if b - r.1 ≥ 2 then Sort.shiftUp lt b (r.1 + 1) (if r.1 - a ≥ 2 then Sort.shiftDown lt (r.1 - 1) (Sort.swp (v s) r.1 (r.1 - 1)) else Sort.swp (v s) r.1 (r.1 - 1)) else (if r.1 - a ≥ 2 then Sort.shiftDown lt (r.1 - 1) (Sort.swp (v s) r.1 (r.1 - 1)) else Sort.swp (v s) r.1 (r.1 - 1))) := by
          unfold partIS
          dsimp only
          have h3 : v (if 2 ≤ r.1 - a then insInner M 0 (r.1 - 1) (M.swap r.2 r.1 (r.1 - 1)) else M.swap r.2 r.1 (r.1 - 1)) = (if r.1 - a ≥ 2 then Sort.shiftDown lt (r.1 - 1) (Sort.swp (v s) r.1 (r.1 - 1)) else Sort.swp (v s) r.1 (r.1 - 1)) := by
            by_cases h : 2 ≤ r.1 - a
            · rw [if_pos h, if_pos h, arr_shiftD V, V.swap, h1.2]
            · rw [if_neg h, if_neg h, V.swap, h1.2]
          generalize (if 2 ≤ r.1 - a then insInner M 0 (r.1 - 1) (M.swap r.2 r.1 (r.1 - 1)) else M.swap r.2 r.1 (r.1 - 1)) = s2 at *
          by_cases h : 2 ≤ b - r.1
          · rw [if_pos h, if_pos h, arr_shiftU V b _ _ _ (by omega), h3]
          · rw [if_neg h, if_neg h, h3]
        have ih := arr_partI V a b k r.1 (partIS M a b r.1 r.2)
        rw [h2] at ih
        exact ih

theorem arr_ord2 (V : ArrV M lt v) (a b sw : Nat) (s : σ) : ((ord2 M a b sw s).1 = (Sort.order2 lt (v s) a b sw).1 ∧ (ord2 M a b sw s).2.1 = (Sort.order2 lt (v s) a b sw).2.1 ∧ (ord2 M a b sw s).2.2.1 = (Sort.order2 lt (v s) a b sw).2.2) ∧ v (ord2 M a b sw s).2.2.2 = v s := by
  unfold ord2 Sort.order2
  rw [V.less]
  cases lt (v s)[b]! (v s)[a]!
  · rw [if_neg (by simp), if_neg (by simp)]; exact ⟨⟨rfl, rfl, rfl⟩, V.tick _ _ _⟩
  · rw [if_pos rfl, if_pos rfl]; exact ⟨⟨rfl, rfl, rfl⟩, V.tick _ _ _⟩
theorem arr_med (V : ArrV M lt v) (a b c sw : Nat) (s : σ) : ((med M a b c sw s).1 = (Sort.median lt (v s) a b c sw).1 ∧ (med M a b c sw s).2.1 = (Sort.median lt (v s) a b c sw).2) ∧ v (med M a b c sw s).2.2 = v s := by
  unfold med Sort.median
  dsimp only
  have h1 := arr_ord2 V a b sw s
  generalize ord2 M a b sw s = r1 at *
  have h2 := arr_ord2 V r1.2.1 c r1.2.2.1 r1.2.2.2
  generalize ord2 M r1.2.1 c r1.2.2.1 r1.2.2.2 = r2 at *
  have h3 := arr_ord2 V r1.1 r2.1 r2.2.2.1 r2.2.2.2
  generalize ord2 M r1.1 r2.1 r2.2.2.1 r2.2.2.2 = r3 at *
  rw [h2.2, h1.2] at h3
  rw [h1.2] at h2
  rw [← h1.1.1, ← h1.1.2.1, ← h1.1.2.2, ← h2.1.1, ← h2.1.2.2]
  exact ⟨⟨h3.1.2.1, h3.1.2.2⟩, h3.2⟩
theorem arr_medAdj (V : ArrV M lt v) (a sw : Nat) (s : σ) : ((medAdj M a sw s).1 = (Sort.medianAdjacent lt (v s) a sw).1 ∧ (medAdj M a sw s).2.1 = (Sort.medianAdjacent lt (v s) a sw).2) ∧ v (medAdj M a sw s).2.2 = v s := arr_med V _ _ _ _ _
/-- the kit's hint of a number -/
def hintK (h : Nat) : Sort.Hint := if h = 1 then .increasing else if h = 2 then .decreasing else .unknown
theorem hintK_of (sw : Nat) : hintK (hintOf sw) = (if sw = 0 then .increasing else if sw = 12 then .decreasing else .unknown : Sort.Hint) := by
  unfold hintOf hintK
  split
  · rfl
  · split <;> rfl
theorem arr_chooseP (V : ArrV M lt v) (a b : Nat) (s : σ) : ((chooseP M a b s).1 = (Sort.choosePivot lt (v s) a b).1 ∧ hintK (chooseP M a b s).2.1 = (Sort.choosePivot lt (v s) a b).2) ∧ v (chooseP M a b s).2.2 = v s := by
  unfold chooseP Sort.choosePivot
  dsimp only
  rw [hintK_of]
  by_cases h8 : 8 ≤ b - a
  · rw [if_pos h8, if_pos (show b - a ≥ 8 from h8)]
    by_cases h50 : 50 ≤ b - a
    · rw [if_pos h50, if_pos (show b - a ≥ 50 from h50)]
      have h1 := arr_medAdj V (a + (b - a) / 4 * 1) 0 s
      generalize medAdj M (a + (b - a) / 4 * 1) 0 s = r1 at *
      have h2 := arr_medAdj V (a + (b - a) / 4 * 2) r1.2.1 r1.2.2
      generalize medAdj M (a + (b - a) / 4 * 2) r1.2.1 r1.2.2 = r2 at *
      have h3 := arr_medAdj V (a + (b - a) / 4 * 3) r2.2.1 r2.2.2
      generalize medAdj M (a + (b - a) / 4 * 3) r2.2.1 r2.2.2 = r3 at *
      have h4 := arr_med V r1.1 r2.1 r3.1 r3.2.1 r3.2.2
      generalize med M r1.1 r2.1 r3.1 r3.2.1 r3.2.2 = r4 at *
      rw [h3.2, h2.2, h1.2] at h4
      rw [h2.2, h1.2] at h3
      rw [h1.2] at h2
      rw [← h1.1.2, ← h2.1.2, ← h1.1.1, ← h2.1.1, ← h3.1.1, ← h3.1.2, ← h4.1.1, ← h4.1.2]
      exact ⟨⟨rfl, rfl⟩, h4.2⟩
    · rw [if_neg h50, if_neg (show ¬ b - a ≥ 50 from h50)]
      have h4 := arr_med V (a + (b - a) / 4 * 1) (a + (b - a) / 4 * 2) (a + (b - a) / 4 * 3) 0 s
      generalize med M (a + (b - a) / 4 * 1) (a + (b - a) / 4 * 2) (a + (b - a) / 4 * 3) 0 s = r4 at *
      rw [← h4.1.1, ← h4.1.2]
      exact ⟨⟨rfl, rfl⟩, h4.2⟩
  · rw [if_neg h8, if_neg (show ¬ b - a ≥ 8 from h8)]
    exact ⟨⟨rfl, rfl⟩, rfl⟩

theorem arr_revL (V : ArrV M lt v) : ∀ (f i j : Nat) (s : σ), j - i ≤ f → v (revL M f i j s) = Sort.reverseLoop i j (v s)
  | 0, i, j, s, h => by unfold Sort.reverseLoop; rw [if_neg (by omega)]; rfl
  | f + 1, i, j, s, h => by
    unfold revL Sort.reverseLoop
    by_cases h1 : i < j
    · rw [if_pos h1, if_pos h1, arr_revL V f _ _ _ (by omega), V.swap]
    · rw [if_neg h1, if_neg h1]
theorem arr_revR (V : ArrV M lt v) (a b : Nat) (s : σ) : v (revR M a b s) = Sort.reverseRange (v s) a b := arr_revL V _ _ _ _ (by omega)

theorem rnd_u64 (l : Nat) (h : l < 18446744073709551616) : (UInt64.ofNat l).toNat = rnd l 0 := by simp [rnd]; omega
theorem arr_breakStep (V : ArrV M lt v) (a l k : Nat) (r : UInt64) (s : σ) (x : Nat) (hr : r.toNat = rnd l k) :
    (Sort.breakStep a l (1 <<< Sort.bitsLen l) (r, v s) x).1.toNat = rnd l (k + 1) ∧ (Sort.breakStep a l (1 <<< Sort.bitsLen l) (r, v s) x).2 = v (M.swap s x (a + othR l k)) := by
  have h1 : (Sort.xorNext r).toNat = rnd l (k + 1) := by rw [Sort.xorNext_toNat, hr]; rfl
  unfold Sort.breakStep
  dsimp only
  rw [h1, V.swap]
  exact ⟨rfl, rfl⟩
theorem arr_breakP (V : ArrV M lt v) (a b : Nat) (s : σ) (hl : b - a < 18446744073709551616) : v (breakP M othR a b s) = Sort.breakPatterns (v s) a b := by
  unfold breakP Sort.breakPatterns
  dsimp only
  by_cases h8 : 8 ≤ b - a
  · rw [if_pos h8, if_pos (show b - a ≥ 8 from h8)]
    have h1 := arr_breakStep V a (b - a) 0 (UInt64.ofNat (b - a)) s (a + (b - a) / 4 * 2 - 1) (rnd_u64 _ hl)
    generalize hq1 : Sort.breakStep a (b - a) (1 <<< Sort.bitsLen (b - a)) (UInt64.ofNat (b - a), v s) (a + (b - a) / 4 * 2 - 1) = q1 at *
    obtain ⟨r1, d1⟩ := q1
    obtain ⟨g1, g2⟩ := h1
    dsimp only at g1 g2
    rw [g2]
    have h2 := arr_breakStep V a (b - a) 1 r1 (M.swap s (a + (b - a) / 4 * 2 - 1) (a + othR (b - a) 0)) (a + (b - a) / 4 * 2 - 1 + 1) g1
    generalize hq2 : Sort.breakStep a (b - a) (1 <<< Sort.bitsLen (b - a)) (r1, v (M.swap s (a + (b - a) / 4 * 2 - 1) (a + othR (b - a) 0))) (a + (b - a) / 4 * 2 - 1 + 1) = q2 at *
    obtain ⟨r2, d2⟩ := q2
    obtain ⟨g3, g4⟩ := h2
    dsimp only at g3 g4
    rw [g4]
    exact (arr_breakStep V a (b - a) 2 r2 _ (a + (b - a) / 4 * 2 - 1 + 2) g3).2.symm
  · rw [if_neg h8, if_neg (show ¬ b - a ≥ 8 from h8)]

theorem arr_pdqL (V : ArrV M lt v) : ∀ (f a b lim : Nat) (wb wp : Bool) (s : σ), b - a ≤ f → b - a < 18446744073709551616 → v (pdqL M othR f a b lim wb wp s) = Sort.pdq lt (v s) a b lim wb wp
  | 0, a, b, lim, wb, wp, s, h, _ => by
    rw [Sort.pdq, if_pos (by omega), ← arr_insSort V]
    rw [pdqL_small h (by omega)]
  | f + 1, a, b, lim, wb, wp, s, h, hl => by
    by_cases h12 : b - a ≤ 12
    · rw [Sort.pdq, if_pos h12, ← arr_insSort V, pdqL_small h h12]
    · by_cases h0 : lim = 0
      · subst h0
        rw [Sort.pdq, if_neg h12, if_pos rfl, ← arr_heapS V, pdqL_heap h12]
      · rw [pdqL_round h12 h0, Sort.pdq, if_neg h12, if_neg h0]
        dsimp only
        have e1 : v (rdA M othR a b wb s) = (if (!wb) = true then Sort.breakPatterns (v s) a b else v s) := by
          unfold rdA
          cases wb
          · rw [if_neg (by simp), if_pos (by simp), arr_breakP V _ _ _ hl]
          · rw [if_pos rfl, if_neg (by simp)]
        have e2 : limN lim wb = (if (!wb) = true then lim - 1 else lim) := by unfold limN; cases wb <;> rfl
        rw [← e1, ← e2]
        generalize rdA M othR a b wb s = s1 at *
        have h3 := arr_chooseP V a b s1
        have wch := Sort.choosePivot_holds lt (v s1) a b (by omega)
        rw [← h3.1.1] at wch
        generalize chooseP M a b s1 = c at *
        rw [← h3.1.1, ← h3.1.2]
        have e3 : v (rdR M a b c) = (if hintK c.2.1 = .decreasing then Sort.reverseRange (v s1) a b else v s1) := by
          unfold rdR hintK
          by_cases h2 : c.2.1 = 2
          · rw [if_pos h2, if_neg (show ¬ c.2.1 = 1 by omega), if_pos h2, if_pos rfl, arr_revR V, h3.2]
          · rw [if_neg h2]
            by_cases h1 : c.2.1 = 1
            · rw [if_pos h1, if_neg (by simp), h3.2]
            · rw [if_neg h1, if_neg h2, if_neg (by simp), h3.2]
        have e4 : rdV a b c = (if hintK c.2.1 = .decreasing then b - 1 - (c.1 - a) else c.1) := by
          unfold rdV hintK
          by_cases h2 : c.2.1 = 2
          · rw [if_pos h2, if_neg (show ¬ c.2.1 = 1 by omega), if_pos h2, if_pos rfl]
          · rw [if_neg h2]
            by_cases h1 : c.2.1 = 1
            · rw [if_pos h1, if_neg (by simp)]
            · rw [if_neg h1, if_neg h2, if_neg (by simp)]
        have e5 : (rdH c = 1) ↔ (if hintK c.2.1 = .decreasing then Sort.Hint.increasing else hintK c.2.1) = .increasing := by
          unfold rdH hintK
          by_cases h2 : c.2.1 = 2
          · rw [if_pos h2, if_neg (show ¬ c.2.1 = 1 by omega), if_pos h2, if_pos rfl]; simp
          · rw [if_neg h2]
            by_cases h1 : c.2.1 = 1
            · rw [if_pos h1, if_neg (by simp)]; simp [h1]
            · rw [if_neg h1, if_neg h2, if_neg (by simp)]; simp [h1]
        have hpv := rdV_in a b c wch.1 wch.2
        rw [← e3, ← e4]
        generalize rdR M a b c = s2 at *
        generalize rdV a b c = pv at *
        have e6 : (rdP M a b wb wp (rdH c) s2).1 = (if (wb && wp && decide ((if hintK c.2.1 = .decreasing then Sort.Hint.increasing else hintK c.2.1) = .increasing)) = true then Sort.partialInsertionSort lt (v s2) a b else (v s2, false)).2 ∧ v (rdP M a b wb wp (rdH c) s2).2 = (if (wb && wp && decide ((if hintK c.2.1 = .decreasing then Sort.Hint.increasing else hintK c.2.1) = .increasing)) = true then Sort.partialInsertionSort lt (v s2) a b else (v s2, false)).1 := by
          unfold rdP
          by_cases hc : wb = true ∧ wp = true ∧ rdH c = 1
          · rw [if_pos hc, if_pos (by simp [hc.1, hc.2.1, e5.1 hc.2.2])]
            exact arr_partI V a b 5 (a + 1) s2
          · rw [if_neg hc, if_neg (by
              intro h
              simp only [Bool.and_eq_true, decide_eq_true_eq] at h
              exact hc ⟨h.1.1, h.1.2, e5.2 h.2⟩)]
            exact ⟨rfl, rfl⟩
        generalize rdP M a b wb wp (rdH c) s2 = p at *
        generalize (if (wb && wp && decide ((if hintK c.2.1 = .decreasing then Sort.Hint.increasing else hintK c.2.1) = .increasing)) = true then Sort.partialInsertionSort lt (v s2) a b else (v s2, false)) = pk at *
        rw [← e6.1]
        by_cases hp1 : p.1 = true
        · rw [if_pos hp1, if_pos hp1, e6.2]
        · rw [if_neg hp1, if_neg hp1, ← e6.2]
          unfold rdT
          rw [V.less]
          by_cases ha : 0 < a ∧ lt (v p.2)[a - 1]! (v p.2)[pv]! = false
          · rw [if_pos ha, if_pos (by simp [ha.1, ha.2])]
            unfold rdE
            have h7 := arr_partEq V a b pv (by omega) (M.tick p.2 (a - 1) pv)
            have w7 := way_partEq (M := M) (n := b) a b pv (M.tick p.2 (a - 1) pv) hpv.1 hpv.2 (Nat.le_refl _)
            rw [V.tick] at h7
            generalize Sort.partitionEqual lt (v p.2) a b pv = rk at *
            generalize partEq M a b pv (M.tick p.2 (a - 1) pv) = r at *
            obtain ⟨k1, k2⟩ := rk
            dsimp only at h7 ⊢
            rw [dif_pos (by omega), ← h7.1, ← h7.2]
            exact arr_pdqL V f r.1 b _ wb wp r.2 (by omega) (by omega)
          · rw [if_neg ha, if_neg (show ¬ ((decide (a > 0) && !lt (v p.2)[a - 1]! (v p.2)[pv]!) = true) from fun h => by
              simp only [Bool.and_eq_true, Bool.not_eq_true', decide_eq_true_eq] at h
              exact ha ⟨h.1, h.2⟩)]
            have h6 : v (if 0 < a then M.tick p.2 (a - 1) pv else p.2) = v p.2 := by
              split
              · exact V.tick _ _ _
              · rfl
            generalize (if 0 < a then M.tick p.2 (a - 1) pv else p.2) = t at *
            unfold rdU
            have h7 := arr_partit V a b pv (by omega) t
            have w7 := way_partit (M := M) (n := b) a b pv t hpv.1 hpv.2 (Nat.le_refl _)
            rw [h6] at h7
            generalize Sort.partition lt (v p.2) a b pv = rk at *
            generalize partit M a b pv t = r at *
            obtain ⟨k1, k2, k3⟩ := rk
            obtain ⟨mid, ap, t3⟩ := r
            dsimp only at h7 w7 ⊢
            rw [dif_pos (by omega), ← h7.1, ← h7.2.1, ← h7.2.2]
            by_cases hlr : mid - a < b - mid
            · rw [if_pos hlr, if_pos hlr, arr_pdqL V f (mid + 1) b _ _ _ _ (by omega) (by omega), arr_pdqL V f a mid _ _ _ _ (by omega) (by omega)]
            · rw [if_neg hlr, if_neg hlr, arr_pdqL V f a mid _ _ _ _ (by omega) (by omega), arr_pdqL V f (mid + 1) b _ _ _ _ (by omega) (by omega)]

/-- The plain pdqsort sorts. -/
theorem pdqS_sorts (V : ArrV M lt v) (S : Sort.SWO lt) (s : σ) (n : Nat) (hn : (v s).size = n) (h64 : n < 18446744073709551616) : Sort.SortedIn lt 0 n (v (pdqS M othR n s)) := by
  unfold pdqS
  by_cases h1 : n ≤ 1
  · rw [if_pos h1]
    intro i j _ h2 h3
    omega
  · rw [if_neg h1, arr_pdqL V n 0 n _ true true s (by omega) (by omega)]
    exact (Sort.pdq_sorts lt S (v s) 0 n _ true true (Nat.zero_le _) (by omega) (.inl rfl)).2
end
end Go.Proofs.Ytjammaglboehcaa
