/-
  The walk of inOrder.
-/
import Derived.Test.YtjammaglboehcaaWeak
namespace Go.Proofs.Ytjammaglboehcaa
open Go.RowKit Go.Proofs
set_option linter.unusedVariables false

/-- No number comes before one ahead of it. -/
def InOrd (r : Int → Int → Bool) (f : Nat → Int) (n : Nat) : Prop := ∀ i j, i < j → j < n → r (f j) (f i) = false

end Go.Proofs.Ytjammaglboehcaa
