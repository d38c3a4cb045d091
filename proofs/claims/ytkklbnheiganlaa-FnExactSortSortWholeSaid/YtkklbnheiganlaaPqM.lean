/-
  Go's pdqsort as a plain program over a machine with Less and Swap (package sort). No program of Go is named here.
-/
import Derived.Test.YtkklbnheiganlaaStM
namespace Go.Proofs.Ytkklbnheiganlaa
set_option linter.unusedVariables false

section
variable {σ : Type} (M : Mach σ)

/-- siftDown from root on -/
def siftD (hi first : Nat) : Nat → Nat → σ → σ
  | 0, _, s => s
  | f + 1, root, s =>
    if hi ≤ 2 * root + 1 then s
    else if 2 * root + 2 < hi then
      (if M.less s (first + (2 * root + 1)) (first + (2 * root + 2)) = true then
        (let t := M.tick s (first + (2 * root + 1)) (first + (2 * root + 2))
         if M.less t (first + root) (first + (2 * root + 2)) = true then siftD hi first f (2 * root + 2) (M.swap (M.tick t (first + root) (first + (2 * root + 2))) (first + root) (first + (2 * root + 2))) else M.tick t (first + root) (first + (2 * root + 2)))
      else
        (let t := M.tick s (first + (2 * root + 1)) (first + (2 * root + 2))
         if M.less t (first + root) (first + (2 * root + 1)) = true then siftD hi first f (2 * root + 1) (M.swap (M.tick t (first + root) (first + (2 * root + 1))) (first + root) (first + (2 * root + 1))) else M.tick t (first + root) (first + (2 * root + 1))))
    else (if M.less s (first + root) (first + (2 * root + 1)) = true then siftD hi first f (2 * root + 1) (M.swap (M.tick s (first + root) (first + (2 * root + 1))) (first + root) (first + (2 * root + 1))) else M.tick s (first + root) (first + (2 * root + 1)))

def heapB (hi first : Nat) : Nat → σ → σ
  | 0, s => s
  | k + 1, s => heapB hi first k (siftD M hi first hi k s)

def heapP (first : Nat) : Nat → σ → σ
  | 0, s => s
  | k + 1, s => heapP first k (siftD M k first k 0 (M.swap s first (first + k)))

def heapS (a b : Nat) (s : σ) : σ := heapP M a (b - a) (heapB M (b - a) a ((b - a - 1) / 2 + 1) s)

/-- while i < hi and Less(x i, y i) is 'up': i++ -/
def scanU (x y : Nat → Nat) (up : Bool) (hi : Nat) : Nat → Nat → σ → Nat × σ
  | 0, i, s => (i, s)
  | f + 1, i, s => if i < hi then (if M.less s (x i) (y i) = up then scanU x y up hi f (i + 1) (M.tick s (x i) (y i)) else (i, M.tick s (x i) (y i))) else (i, s)

/-- while lo ≤ j and Less(x j, y j) is 'up': j-- -/
def scanD (x y : Nat → Nat) (up : Bool) (lo : Nat) : Nat → σ → Nat × σ
  | 0, s => (0, s)
  | j + 1, s => if lo ≤ j + 1 then (if M.less s (x (j + 1)) (y (j + 1)) = up then scanD x y up lo j (M.tick s (x (j + 1)) (y (j + 1))) else (j + 1, M.tick s (x (j + 1)) (y (j + 1)))) else (j + 1, s)

/-- the loop of partition (e = false) and of partitionEqual (e = true): where i and j stand at the break -/
def partL (a : Nat) (e : Bool) : Nat → Nat → Nat → σ → Nat × Nat × σ
  | 0, i, j, s => (i, j, s)
  | f + 1, i, j, s =>
    (let r1 := if e then scanU M (fun _ => a) (fun i => i) false (j + 1) (j + 1 - i) i s else scanU M (fun i => i) (fun _ => a) true (j + 1) (j + 1 - i) i s
     let r2 := if e then scanD M (fun _ => a) (fun j => j) true r1.1 j r1.2 else scanD M (fun j => j) (fun _ => a) false r1.1 j r1.2
     if r2.1 < r1.1 then (r1.1, r2.1, r2.2) else partL a e f (r1.1 + 1) (r2.1 - 1) (M.swap r2.2 r1.1 r2.1))

def partit (a b pivot : Nat) (s : σ) : Nat × Bool × σ :=
  let r1 := scanU M (fun i => i) (fun _ => a) true b (b - (a + 1)) (a + 1) (M.swap s a pivot)
  let r2 := scanD M (fun j => j) (fun _ => a) false r1.1 (b - 1) r1.2
  if r2.1 < r1.1 then (r2.1, true, M.swap r2.2 r2.1 a)
  else
    (let r := partL M a false (b - a) (r1.1 + 1) (r2.1 - 1) (M.swap r2.2 r1.1 r2.1)
     (r.2.1, false, M.swap r.2.2 r.2.1 a))

def partEq (a b pivot : Nat) (s : σ) : Nat × σ :=
  let r := partL M a true (b - a) (a + 1) (b - 1) (M.swap s a pivot)
  (r.1, r.2.2)

/-- while j < b and Less(j, j-1): swap, j++ -/
def shiftU (b : Nat) : Nat → Nat → σ → σ
  | 0, _, s => s
  | f + 1, j, s => if j < b then (if M.less s j (j - 1) = true then shiftU b f (j + 1) (M.swap (M.tick s j (j - 1)) j (j - 1)) else M.tick s j (j - 1)) else s

/-- so many steps of partialInsertionSort are left -/
def partI (a b : Nat) : Nat → Nat → σ → Bool × σ
  | 0, _, s => (false, s)
  | k + 1, i, s =>
    (let r := scanU M (fun i => i) (fun i => i - 1) false b (b - i) i s
     if r.1 = b then (true, r.2)
     else if b - a < 50 then (false, r.2)
     else
      (let s1 := M.swap r.2 r.1 (r.1 - 1)
       let s2 := if 2 ≤ r.1 - a then insInner M 0 (r.1 - 1) s1 else s1
       let s3 := if 2 ≤ b - r.1 then shiftU M b (b - (r.1 + 1)) (r.1 + 1) s2 else s2
       partI a b k r.1 s3))

/-- (the lesser one's place, the other's, swaps, state) -/
def ord2 (a b sw : Nat) (s : σ) : Nat × Nat × Nat × σ := if M.less s b a = true then (b, a, sw + 1, M.tick s b a) else (a, b, sw, M.tick s b a)
def med (a b c sw : Nat) (s : σ) : Nat × Nat × σ :=
  let r1 := ord2 M a b sw s
  let r2 := ord2 M r1.2.1 c r1.2.2.1 r1.2.2.2
  let r3 := ord2 M r1.1 r2.1 r2.2.2.1 r2.2.2.2
  (r3.2.1, r3.2.2.1, r3.2.2.2)
def medAdj (a sw : Nat) (s : σ) : Nat × Nat × σ := med M (a - 1) a (a + 1) sw s

/-- 0 unknown, 1 increasing, 2 decreasing -/
def hintOf (sw : Nat) : Nat := if sw = 0 then 1 else if sw = 12 then 2 else 0
def chooseP (a b : Nat) (s : σ) : Nat × Nat × σ :=
  let l := b - a
  let i := a + l / 4 * 1
  let j := a + l / 4 * 2
  let k := a + l / 4 * 3
  let r : Nat × Nat × σ :=
    if 8 ≤ l then
      (if 50 ≤ l then
        (let ri := medAdj M i 0 s
         let rj := medAdj M j ri.2.1 ri.2.2
         let rk := medAdj M k rj.2.1 rj.2.2
         med M ri.1 rj.1 rk.1 rk.2.1 rk.2.2)
      else med M i j k 0 s)
    else (j, 0, s)
  (r.1, hintOf r.2.1, r.2.2)

def revL : Nat → Nat → Nat → σ → σ
  | 0, _, _, s => s
  | f + 1, i, j, s => if i < j then revL f (i + 1) (j - 1) (M.swap s i j) else s
def revR (a b : Nat) (s : σ) : σ := revL M (b - a) a (b - 1) s

/-- breakPatterns, with what its random numbers come to: 'oth l k' for the k-th of three at the length l -/
def breakP (oth : Nat → Nat → Nat) (a b : Nat) (s : σ) : σ :=
  if 8 ≤ b - a then
    (let x := a + (b - a) / 4 * 2 - 1
     M.swap (M.swap (M.swap s x (a + oth (b - a) 0)) (x + 1) (a + oth (b - a) 1)) (x + 2) (a + oth (b - a) 2))
  else s

/-- the loop of pdqsort -/
def pdqL (oth : Nat → Nat → Nat) : Nat → Nat → Nat → Nat → Bool → Bool → σ → σ
  | 0, _, _, _, _, _, s => s
  | f + 1, a, b, lim, wb, wp, s =>
    if b - a ≤ 12 then insSort M a b s
    else if lim = 0 then heapS M a b s
    else
      (let s1 := if wb then s else breakP M oth a b s
       let lim := if wb then lim else lim - 1
       let c := chooseP M a b s1
       let s2 := if c.2.1 = 2 then revR M a b c.2.2 else c.2.2
       let pv := if c.2.1 = 2 then b - 1 - (c.1 - a) else c.1
       let h := if c.2.1 = 2 then 1 else c.2.1
       let p : Bool × σ := if wb = true ∧ wp = true ∧ h = 1 then partI M a b 5 (a + 1) s2 else (false, s2)
       if p.1 = true then p.2
       else if 0 < a ∧ M.less p.2 (a - 1) pv = false then
        (let r := partEq M a b pv (M.tick p.2 (a - 1) pv)
         pdqL oth f r.1 b lim wb wp r.2)
       else
        (let t := if 0 < a then M.tick p.2 (a - 1) pv else p.2
         let r := partit M a b pv t
         if r.1 - a < b - r.1 then pdqL oth f (r.1 + 1) b lim (decide ((b - a) / 8 ≤ r.1 - a)) r.2.1 (pdqL oth f a r.1 lim true true r.2.2)
         else pdqL oth f a r.1 lim (decide ((b - a) / 8 ≤ b - r.1)) r.2.1 (pdqL oth f (r.1 + 1) b lim true true r.2.2)))

def bitsL (n : Nat) : Nat := if n = 0 then 0 else Nat.log2 n + 1
def pdqS (oth : Nat → Nat → Nat) (n : Nat) (s : σ) : σ := if n ≤ 1 then s else pdqL M oth n 0 n (bitsL n) true true s
end
end Go.Proofs.Ytkklbnheiganlaa
