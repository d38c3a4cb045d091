/-
  What the walks of the stable sort's other forms share.
-/
import Derived.Test.YtjammaglboehcaaStI4
namespace Go.Proofs.Ytjammaglboehcaa
open Go.RowKit Go.Proofs

theorem cell_staysB {w : World} {p q : Addr} {v x : Value} (h : w.cell? q = some v) : ∃ u, (w.setCell p x).cell? q = some u := by
  by_cases e : p = q
  · subst e; exact ⟨x, World.cell?_setCell_same _ _ _ h⟩
  · exact ⟨v, by rw [World.cell?_setCell_other _ _ _ _ (fun h => e h)]; exact h⟩
end Go.Proofs.Ytjammaglboehcaa
