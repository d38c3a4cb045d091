/-
  The contract of laws.ascending: it tells whether no number is less than the one ahead of it.
-/
import Derived.Test.YtjammaglboehcaaProg
import Derived.Test.YtjammaglboehcaaWords
namespace Go.Proofs.Ytjammaglboehcaa
open Go.RowKit Go.Proofs
set_option linter.unusedVariables false

/-- No number is less than the one ahead of it. -/
def AscF (f : Nat → Int) (n : Nat) : Prop := ∀ i, 1 ≤ i → i < n → f (i - 1) ≤ f i

theorem AscF.le {f : Nat → Int} {n : Nat} (h : AscF f n) {i j : Nat} (hij : i ≤ j) (hj : j < n) : f i ≤ f j := by
  induction j with
  | zero => obtain rfl : i = 0 := by omega
            exact Int.le_refl _
  | succ j ih =>
    rcases Nat.lt_or_ge j i with hh | hh
    · obtain rfl : i = j + 1 := by omega
      exact Int.le_refl _
    · have h1 := ih hh (by omega)
      have h2 := h (j + 1) (by omega) hj
      simp only [Nat.add_sub_cancel] at h2
      omega

/-- A call that only reads, and tells whether p. -/
def Tells (p : Prop) (w : World) (e : Ending) (w' : World) : Prop := ∃ b : Bool, e = .returned (.bool b) ∧ (b = true ↔ p) ∧ ∃ q, w' = w.drewN q

end Go.Proofs.Ytjammaglboehcaa
