/-
  Lists of strings in ascending order, byte by byte; the contract of laws.ascendingTexts.
-/
import Derived.Test.YtkalmcpejmljgaaAsc
import Derived.Test.YtkalmcpejmljgaaEarl
namespace Go.Proofs.Ytkalmcpejmljgaa
open Go.RowKit Go.Proofs
set_option linter.unusedVariables false

/-- No string is before the one ahead of it. -/
def AscS (f : Nat → ByteArray) (n : Nat) : Prop := ∀ i, 1 ≤ i → i < n → ltS (f i) (f (i - 1)) = false

theorem ltS_false_trans {a b c : ByteArray} (h1 : ltS a b = false) (h2 : ltS b c = false) : ltS a c = false := by
  simp only [ltS, decide_eq_false_iff_not] at *
  exact fun h => h2 (List.lt_of_le_of_lt (List.not_lt.1 h1) h)

theorem AscS.le {f : Nat → ByteArray} {n : Nat} (h : AscS f n) {i j : Nat} (hij : i ≤ j) (hj : j < n) : ltS (f j) (f i) = false := by
  induction j with
  | zero => obtain rfl : i = 0 := by omega
            simp only [ltS, decide_eq_false_iff_not]; exact List.lt_irrefl _
  | succ j ih =>
    rcases Nat.lt_or_ge j i with hh | hh
    · obtain rfl : i = j + 1 := by omega
      simp only [ltS, decide_eq_false_iff_not]; exact List.lt_irrefl _
    · have h1 := ih hh (by omega)
      have h2 := h (j + 1) (by omega) hj
      simp only [Nat.add_sub_cancel] at h2
      exact ltS_false_trans h2 h1

end Go.Proofs.Ytkalmcpejmljgaa
