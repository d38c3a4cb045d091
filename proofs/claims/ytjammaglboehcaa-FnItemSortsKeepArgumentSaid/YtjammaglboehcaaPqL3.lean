/-
  The walk of the law FnSortSortItemsKeys.
-/
import Derived.Test.YtjammaglboehcaaPqL2
import Derived.Test.YtjammaglboehcaaZU
namespace Go.Proofs.Ytjammaglboehcaa
open Go.RowKit Go.Proofs
set_option linter.unusedVariables false

/-- The keys behind sort.Sort by keys are the sorted keys. -/
theorem sortKey_srt (f : Nat → Int × Int) {n : Nat} (hn : n < 18446744073709551616) : ∀ k, k < n → (f (sortP (keyT f) n k)).1 = srtI (fun i => (f i).1) n k :=
  srtF_unique lin_leI 0 (g := fun k => (f (sortP (keyT f) n k)).1) (fun i j hij hj => by
    have := sortP_sorted (keyT_swo f) hn hij hj
    rw [keyT_no] at this
    exact decide_eq_true this) (fun x => sortP_count (keyT f) n (fun k => decide ((f k).1 = x)))

end Go.Proofs.Ytjammaglboehcaa
