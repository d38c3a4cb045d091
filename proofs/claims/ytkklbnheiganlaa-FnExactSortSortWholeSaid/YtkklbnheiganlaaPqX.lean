/-
  The random numbers of breakPatterns, and its three swaps. No program of Go is named here.
-/
import Derived.Test.YtkklbnheiganlaaPqT
import Derived.Sort.LotD5
import Derived.Sort.LotD1
namespace Go.Proofs.Ytkklbnheiganlaa
set_option linter.unusedVariables false

/-! ### The random numbers -/
def rnd (l : Nat) : Nat → Nat
  | 0 => l
  | k + 1 => Sort.xorNextN (rnd l k)
theorem rnd_lt (l : Nat) (h : l < 18446744073709551616) : ∀ k, rnd l k < 18446744073709551616
  | 0 => h
  | k + 1 => Sort.xorNextN_lt _ (rnd_lt l h k)
def othR (l k : Nat) : Nat := if l ≤ (rnd l (k + 1)) &&& (1 <<< Sort.bitsLen l - 1) then ((rnd l (k + 1)) &&& (1 <<< Sort.bitsLen l - 1)) - l else (rnd l (k + 1)) &&& (1 <<< Sort.bitsLen l - 1)
theorem othR_ok : OthOk othR := by
  intro l k h8
  unfold othR
  have h1 : (rnd l (k + 1)) &&& (1 <<< Sort.bitsLen l - 1) ≤ 1 <<< Sort.bitsLen l - 1 := Nat.and_le_right
  have h2 : 1 <<< Sort.bitsLen l ≤ 2 * l := by rw [Nat.one_shiftLeft]; exact Sort.two_pow_bitsLen_le (by omega)
  generalize (rnd l (k + 1)) &&& (1 <<< Sort.bitsLen l - 1) = o at *
  split <;> omega
/-- so many of the three swaps are left -/
def brkR {σ : Type} (M : Mach σ) (oth : Nat → Nat → Nat) (a l x : Nat) : Nat → Nat → σ → σ
  | 0, _, s => s
  | g + 1, k, s => brkR M oth a l x g (k + 1) (M.swap s (x + k) (a + oth l k))
theorem way_brkR {σ : Type} {M : Mach σ} {n : Nat} {oth : Nat → Nat → Nat} (ho : OthOk oth) (a l x : Nat) (h8 : 8 ≤ l) (hn : a + l ≤ n) : ∀ (g k : Nat) (s : σ), x + k + g ≤ n → Way M n g s (brkR M oth a l x g k s)
  | 0, _, s, _ => .nil _ _
  | g + 1, k, s, h => ((Way.swap1 s (by omega) (by have := ho l k h8; omega)).trans (way_brkR ho a l x h8 hn g (k + 1) _ (by omega))).mono (by omega)

end Go.Proofs.Ytkklbnheiganlaa
