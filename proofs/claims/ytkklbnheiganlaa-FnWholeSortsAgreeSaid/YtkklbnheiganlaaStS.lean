/-
  The walks of the reference spec.StableByOrder, of sameInts, and of the law FnSortStableByOrder.
-/
import Derived.Test.YtkklbnheiganlaaStN
import Derived.Test.YtkklbnheiganlaaWeak
namespace Go.Proofs.Ytkklbnheiganlaa
open Go.RowKit Go.Proofs
set_option linter.unusedVariables false


theorem BoxInv.setCell {w w1 : World} {sz : Int} {A : Option Addr} {m c : Nat} (h : BoxInv w sz A m c w1) {p : Addr} (hp : w.heap.size < p.block) (v : Value) : BoxInv w sz A m c (w1.setCell p v) :=
  ⟨h.bel.setCell (Nat.le_of_lt hp) _, by simpa [World.setCell] using h.lt, by rw [World.cell?_setCell_other _ _ _ _ (fun q => by subst q; exact absurd hp (Nat.lt_irrefl _))]; exact h.c0, by rw [World.cell?_setCell_other _ _ _ _ (fun q => by subst q; exact absurd hp (Nat.lt_irrefl _))]; exact h.c1⟩

/-- What the reference has placed. -/
def Placed (rk : Nat → Nat) (e : Nat → Value) (i : Nat) (F : Nat → Value) : Prop := ∀ k, k < i → F (rk k) = e k
theorem Placed.step {n i : Nat} {rk : Nat → Nat} {e F : Nat → Value} (hinj : ∀ a b, a < n → b < n → rk a = rk b → a = b) (hi : i < n) (h : Placed rk e i F) : Placed rk e (i + 1) (fun k => if k = rk i then e i else F k) := fun k hk => by
  dsimp only
  by_cases c : k = i
  · subst c; rw [if_pos rfl]
  · rw [if_neg (fun q => c (hinj _ _ (by omega) hi q))]; exact h k (by omega)

/-- A list of the reference's: each element at its rank. -/
def OutR (w : World) (n : Nat) (f : Nat → Int) (rk : Nat → Nat) (e : Ending) (w' : World) : Prop :=
  ∃ (g : Nat) (F : Nat → Value), e = .returned (.slice (some ⟨g, 0, none⟩) n n) ∧ w.heap.size ≤ g ∧ w'.rowIs g 3 n F ∧ Placed rk (fun k => .int .i64 (f k)) n F ∧ Below w.heap.size w w'

end Go.Proofs.Ytkklbnheiganlaa
