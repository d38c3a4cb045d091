/-
  The machine of a list under a table, and its memory: a row of one block whose elements change places. No program of Go is named here.
-/
import Derived.Test.YtjammaglboehcaaZA
import Derived.Test.YtjammaglboehcaaCpyS
namespace Go.Proofs.Ytjammaglboehcaa
open Go.RowKit
set_option linter.unusedVariables false

/-- The machine whose state is which element stands where. -/
def tabM (T : Nat → Nat → Bool) : Mach (Nat → Nat) := ⟨fun p i j => T (p i) (p j), fun p _ _ => p, fun p i j => swapF p i j⟩
theorem tabM_view (T : Nat → Nat → Bool) : View (tabM T) T (fun p => p) := ⟨fun _ _ _ => rfl, fun _ _ _ => rfl, fun _ _ _ => rfl⟩
theorem tabM_guard (T : Nat → Nat → Bool) : Guard (tabM T) (fun _ => True) := ⟨fun _ _ _ _ => trivial, fun _ _ _ _ => trivial⟩

/-- A permutation of the places below n. -/
def PermN (n : Nat) (p : Nat → Nat) : Prop := (∀ k, k < n → p k < n) ∧ ∀ i j, i < n → j < n → p i = p j → i = j
theorem permN_id (n : Nat) : PermN n (fun k => k) := ⟨fun _ h => h, fun _ _ _ _ h => h⟩
theorem permN_swap {n : Nat} {p : Nat → Nat} (h : PermN n p) {i j : Nat} (hi : i < n) (hj : j < n) : PermN n (swapF p i j) := by
  unfold swapF
  refine ⟨fun k hk => ?_, fun a b ha hb hab => ?_⟩
  · dsimp only
    split
    · exact h.1 j hj
    · split
      · exact h.1 i hi
      · exact h.1 k hk
  · dsimp only at hab
    by_cases a1 : a = i
    · rw [if_pos a1] at hab
      by_cases b1 : b = i
      · omega
      · rw [if_neg b1] at hab
        by_cases b2 : b = j
        · rw [if_pos b2] at hab
          have := h.2 _ _ hj hi hab; omega
        · rw [if_neg b2] at hab
          have := h.2 _ _ hj hb hab; omega
    · rw [if_neg a1] at hab
      by_cases a2 : a = j
      · rw [if_pos a2] at hab
        by_cases b1 : b = i
        · rw [if_pos b1] at hab
          have := h.2 _ _ hi hj hab; omega
        · rw [if_neg b1] at hab
          by_cases b2 : b = j
          · omega
          · rw [if_neg b2] at hab
            have := h.2 _ _ hi hb hab; omega
      · rw [if_neg a2] at hab
        by_cases b1 : b = i
        · rw [if_pos b1] at hab
          have := h.2 _ _ ha hj hab; omega
        · rw [if_neg b1] at hab
          by_cases b2 : b = j
          · rw [if_pos b2] at hab
            have := h.2 _ _ ha hi hab; omega
          · rw [if_neg b2] at hab
            exact h.2 _ _ ha hb hab
theorem tabM_keeps (T : Nat → Nat → Bool) (n : Nat) : Keeps (tabM T) n (PermN n) := ⟨fun _ _ _ _ _ h => h, fun _ _ _ hi hj h => permN_swap h hi hj⟩
theorem stable_perm (T : Nat → Nat → Bool) (n : Nat) : PermN n (stable (tabM T) n (fun k => k)) := keep_stable (tabM_keeps T n) _ (permN_id n)
theorem stable_ord {T : Nat → Nat → Bool} (S : Swo T) (n : Nat) : Ord T (stable (tabM T) n (fun k => k)) 0 n := (stable_seg S (tabM_view T) n (fun k => k) (fun _ _ => rfl)).2

/-- Memory: below the row as it was, and the row holds the elements x in the order p. -/
def RowP (w0 : World) (g : Nat) (t : TypeId) (n len : Nat) (e : Nat → Value) (G : Nat → Value) (p : Nat → Nat) (w : World) : Prop :=
  Below g w0 w ∧ g < w0.heap.size ∧ n ≤ len ∧ w.rowIs g t len (fun k => if k < n then e (p k) else G k)

section
variable {w0 w w' : World} {g : Nat} {t : TypeId} {n len : Nat} {e G : Nat → Value} {p : Nat → Nat}
theorem RowP.keep (h : RowP w0 g t n len e G p w) (hb : Below w.heap.size w w') : RowP w0 g t n len e G p w' :=
  ⟨h.1.trans (hb.mono (Nat.le_trans (Nat.le_of_lt h.2.1) h.1.size)), h.2.1, h.2.2.1, rowIs_below h.2.2.2 hb (Nat.lt_of_lt_of_le h.2.1 h.1.size)⟩
theorem RowP.drewN (h : RowP w0 g t n len e G p w) (q : Nat) : RowP w0 g t n len e G p (w.drewN q) := ⟨below_drewN h.1 q, h.2.1, h.2.2.1, h.2.2.2⟩
theorem RowP.cell (h : RowP w0 g t n len e G p w) {i : Nat} (hi : i < n) : w.cell? ⟨g, i, none⟩ = some (e (p i)) := by
  have := h.2.2.2.cell (show i < len by have := h.2.2.1; omega)
  rw [if_pos hi] at this; exact this
theorem RowP.frozen (h : RowP w0 g t n len e G p w) (i : Nat) : w.frozen? ⟨g, i, none⟩ = false := h.2.2.2.frozen i
theorem RowP.lt (h : RowP w0 g t n len e G p w) : g < w.heap.size := Nat.lt_of_lt_of_le h.2.1 h.1.size
theorem RowP.swap (h : RowP w0 g t n len e G p w) {i j : Nat} (hi : i < n) (hj : j < n) : RowP w0 g t n len e G (swapF p i j) ((w.setCell ⟨g, i, none⟩ (e (p j))).setCell ⟨g, j, none⟩ (e (p i))) := by
  refine ⟨(h.1.setCell (p := ⟨g, i, none⟩) (Nat.le_refl _) _).setCell (p := ⟨g, j, none⟩) (Nat.le_refl _) _, h.2.1, h.2.2.1, ((h.2.2.2.set i _).set j _).congr fun k hk => ?_⟩
  unfold swapF
  by_cases k1 : k = j
  · subst k1
    rw [if_pos rfl, if_pos hj]
    by_cases k2 : k = i
    · subst k2; rw [if_pos rfl]
    · rw [if_neg k2, if_pos rfl]
  · rw [if_neg k1]
    by_cases k2 : k = i
    · subst k2; rw [if_pos rfl, if_pos hi, if_pos rfl]
    · rw [if_neg k2]
      by_cases k3 : k < n
      · rw [if_pos k3, if_pos k3, if_neg k2, if_neg k1]
      · rw [if_neg k3, if_neg k3]
end
end Go.Proofs.Ytjammaglboehcaa
