/-
  The plain laws and the walks of the laws FnSortStableOfSorted and FnSortStableKeepsEqual.
-/
import Derived.Test.YtkklbnheiganlaaStKy
import Derived.Test.YtkklbnheiganlaaStG
import Derived.Test.YtkklbnheiganlaaSame
namespace Go.Proofs.Ytkklbnheiganlaa
open Go.RowKit Go.Proofs
set_option linter.unusedVariables false

theorem keyT_swo (f : Nat → Int × Int) : Swo (keyT f) := by
  unfold keyT
  exact ⟨fun i => by simp, fun i j k h1 h2 => by simp at h1 h2 ⊢; omega, fun i j k h1 h2 => by simp at h1 h2 ⊢; omega⟩

/-- A list that is in order stays as it is. -/
theorem stable_stays {T : Nat → Nat → Bool} (S : Swo T) {n : Nat} (h : Ord T (fun k => k) 0 n) : ∀ k, k < n → stable (tabM T) n (fun k => k) k = k := fun k hk => by
  have hp := (stable_perm T n).1 k hk
  have h1 := rank_of S (stable_count T n) (stable_ord S n) hk
  have h2 := rank_of S (count_id n) h hp
  rw [h1] at h2
  exact h2.symm

theorem ord_of_asc {f : Nat → Int × Int} {n : Nat} (h : AscF (fun k => (f k).1) n) : Ord (keyT f) (fun k => k) 0 n := fun x y _ hxy hy => by
  refine .inr ⟨?_, hxy⟩
  unfold keyT
  have := AscF.le h (Nat.le_of_lt hxy) hy
  simp only [decide_eq_false_iff_not]
  omega

theorem OutPI.rd {w w' : World} {n : Nat} {f : Nat → Int × Int} {p : Nat → Nat} {e : Ending} (h : OutPI w n f p e w') : ∃ A c, e = .returned (.slice A n c) ∧ RdI w' w'.heap.size A n (fun k => f (p k)) ∧ Below w.heap.size w w' := by
  obtain ⟨v, rfl, ⟨G, hG, hF⟩, hb⟩ := h
  obtain ⟨A, c, rfl, hr⟩ := hG.rdI hF
  exact ⟨A, c, rfl, hr, hb⟩


end Go.Proofs.Ytkklbnheiganlaa
