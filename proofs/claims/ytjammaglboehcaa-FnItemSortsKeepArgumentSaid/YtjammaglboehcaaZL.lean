/-
  Several texts of the walk or of the plain theory in one: StN, StS, StL2, StL3.
-/
import Derived.Test.YtjammaglboehcaaStOr
import Derived.Test.YtjammaglboehcaaStC
import Derived.Test.YtjammaglboehcaaWeak
import Derived.Test.YtjammaglboehcaaSame
import Derived.Test.YtjammaglboehcaaIsO
import Derived.Deep.RegionHeld3
import Derived.Test.YtjammaglboehcaaStKy
import Derived.Test.YtjammaglboehcaaStG
namespace Go.Proofs.Ytjammaglboehcaa
open Go.RowKit Go.Proofs
set_option linter.unusedVariables false


end Go.Proofs.Ytjammaglboehcaa

namespace Go.Proofs.Ytjammaglboehcaa
open Go.RowKit Go.Proofs
set_option linter.unusedVariables false


theorem BoxInv.setCell {w w1 : World} {sz : Int} {A : Option Addr} {m c : Nat} (h : BoxInv w sz A m c w1) {p : Addr} (hp : w.heap.size < p.block) (v : Value) : BoxInv w sz A m c (w1.setCell p v) :=
  ⟨h.bel.setCell (Nat.le_of_lt hp) _, by simpa [World.setCell] using h.lt, by rw [World.cell?_setCell_other _ _ _ _ (fun q => by subst q; exact absurd hp (Nat.lt_irrefl _))]; exact h.c0, by rw [World.cell?_setCell_other _ _ _ _ (fun q => by subst q; exact absurd hp (Nat.lt_irrefl _))]; exact h.c1⟩

/-- What the reference has placed. -/
def Placed (rk : Nat → Nat) (e : Nat → Value) (i : Nat) (F : Nat → Value) : Prop := ∀ k, k < i → F (rk k) = e k
theorem Placed.step {n i : Nat} {rk : Nat → Nat} {e F : Nat → Value} (hinj : ∀ a b, a < n → b < n → rk a = rk b → a = b) (hi : i < n) (h : Placed rk e i F) : Placed rk e (i + 1) (fun k => if k = rk i then e i else F k) := fun k hk => by
  dsimp only
  by_cases c : k = i
  · subst c; rw [if_pos rfl]
  · rw [if_neg (fun q => c (hinj _ _ (by omega) hi q))]; exact h k (by omega)

/-- A list of the reference's: each element at its rank. -/
def OutR (w : World) (n : Nat) (f : Nat → Int) (rk : Nat → Nat) (e : Ending) (w' : World) : Prop :=
  ∃ (g : Nat) (F : Nat → Value), e = .returned (.slice (some ⟨g, 0, none⟩) n n) ∧ w.heap.size ≤ g ∧ w'.rowIs g 3 n F ∧ Placed rk (fun k => .int .i64 (f k)) n F ∧ Below w.heap.size w w'

end Go.Proofs.Ytjammaglboehcaa

namespace Go.Proofs.Ytjammaglboehcaa
open Go.RowKit Go.Proofs
set_option linter.unusedVariables false

theorem w3_trans {r : Int → Int → Bool} {a b c : Int} (h : weak3 r a b c = true) (h1 : r a b = true) (h2 : r b c = true) : r a c = true := by
  unfold weak3 at h; rw [h1, h2] at h
  cases hc : r a c
  · rw [hc] at h; simp at h
  · rfl
theorem w3_inc {r : Int → Int → Bool} {a b c : Int} (h : weak3 r a b c = true) (h1 : r a b = false) (h2 : r b a = false) (h3 : r b c = false) (h4 : r c b = false) : r a c = false ∧ r c a = false := by
  unfold weak3 at h; rw [h1, h2, h3, h4] at h
  simpa using h

/-- A strict weak order of a list's numbers, as one of all places. -/
theorem swo_of_weak {r : Int → Int → Bool} {f : Nat → Int} {n : Nat} (h : WeakP r f n) : ∃ T : Nat → Nat → Bool, Swo T ∧ ∀ i j, i < n → j < n → T i j = r (f i) (f j) := by
  by_cases h0 : n = 0
  · exact ⟨fun _ _ => false, ⟨fun _ => rfl, fun _ _ _ h => absurd h (by simp), fun _ _ _ _ _ => rfl⟩, fun i j hi => absurd hi (by omega)⟩
  · have hl : ∀ i, min i (n - 1) < n := fun i => by omega
    refine ⟨fun i j => r (f (min i (n - 1))) (f (min j (n - 1))), ⟨fun i => (h _ (hl i)).1, fun i j k h1 h2 => w3_trans (((h _ (hl i)).2 _ (hl j)).2 _ (hl k)) h1 h2, fun i j k h1 h2 => ?_⟩, fun i j hi hj => by
      have e1 : min i (n - 1) = i := by omega
      have e2 : min j (n - 1) = j := by omega
      simp only [e1, e2]⟩
    have hi := hl i; have hj := hl j; have hk := hl k
    generalize min i (n - 1) = i at *
    generalize min j (n - 1) = j at *
    generalize min k (n - 1) = k at *
    cases hc : r (f k) (f i)
    · rfl
    · exfalso
      cases hab : r (f i) (f j)
      · cases hbc : r (f j) (f k)
        · have := (w3_inc (((h i hi).2 j hj).2 k hk) hab h1 hbc h2).2
          rw [hc] at this; cases this
        · have := w3_trans (((h j hj).2 k hk).2 i hi) hbc hc
          rw [h1] at this; cases this
      · have := w3_trans (((h k hk).2 i hi).2 j hj) hc hab
        rw [h2] at this; cases this

theorem ranked {T T0 : Nat → Nat → Bool} {n : Nat} (S : Swo T) (hT : ∀ i j, i < n → j < n → T i j = T0 i j) :
    (∀ i, i < n → cnt (fun j => bfB T0 j i) n < n) ∧ (∀ a b, a < n → b < n → cnt (fun j => bfB T0 j a) n = cnt (fun j => bfB T0 j b) n → a = b) ∧ ∀ k, k < n → cnt (fun j => bfB T0 j (stable (tabM T) n (fun k => k) k)) n = k := by
  have hp := stable_perm T n
  have ho := stable_ord S n
  have hc := stable_count T n
  generalize stable (tabM T) n (fun k => k) = p at *
  have he : ∀ i, i < n → cnt (fun j => bfB T0 j i) n = cnt (fun j => bfB T j i) n := fun i hi => cnt_congr fun j hj => by
    unfold bfB; rw [hT _ _ hj hi, hT _ _ hi hj]
  have hk : ∀ k, k < n → cnt (fun j => bfB T0 j (p k)) n = k := fun k hk => by rw [he _ (hp.1 k hk)]; exact rank_of S hc ho hk
  refine ⟨fun i hi => ?_, fun a b ha hb hab => ?_, hk⟩
  · obtain ⟨k, hk1, rfl⟩ := hc.onto hi
    rw [hk k hk1]; exact hk1
  · obtain ⟨k, hk1, rfl⟩ := hc.onto ha
    obtain ⟨l, hl1, rfl⟩ := hc.onto hb
    rw [hk k hk1, hk l hl1] at hab
    rw [hab]

theorem OutR.rd {w w' : World} {n : Nat} {f : Nat → Int} {rk p : Nat → Nat} {e : Ending} (h : OutR w n f rk e w') (hp : ∀ k, k < n → p k < n) (hk : ∀ k, k < n → rk (p k) = k) :
    ∃ A c, e = .returned (.slice A n c) ∧ Rd w' w'.heap.size (Value.int .i64) A n (fun k => f (p k)) ∧ Below w.heap.size w w' := by
  obtain ⟨g, F, rfl, hg, hr, hP, hb⟩ := h
  exact ⟨_, n, rfl, fun _ => ⟨g, 0, rfl, hr.lt, fun i hi => by
    rw [Nat.zero_add, hr.cell hi]
    have := hP (p i) (hp i hi)
    rw [hk i hi] at this
    rw [this]⟩, hb⟩

end Go.Proofs.Ytjammaglboehcaa

namespace Go.Proofs.Ytjammaglboehcaa
open Go.RowKit Go.Proofs
set_option linter.unusedVariables false

theorem keyT_swo (f : Nat → Int × Int) : Swo (keyT f) := by
  unfold keyT
  exact ⟨fun i => by simp, fun i j k h1 h2 => by simp at h1 h2 ⊢; omega, fun i j k h1 h2 => by simp at h1 h2 ⊢; omega⟩

/-- A list that is in order stays as it is. -/
theorem stable_stays {T : Nat → Nat → Bool} (S : Swo T) {n : Nat} (h : Ord T (fun k => k) 0 n) : ∀ k, k < n → stable (tabM T) n (fun k => k) k = k := fun k hk => by
  have hp := (stable_perm T n).1 k hk
  have h1 := rank_of S (stable_count T n) (stable_ord S n) hk
  have h2 := rank_of S (count_id n) h hp
  rw [h1] at h2
  exact h2.symm

theorem ord_of_asc {f : Nat → Int × Int} {n : Nat} (h : AscF (fun k => (f k).1) n) : Ord (keyT f) (fun k => k) 0 n := fun x y _ hxy hy => by
  refine .inr ⟨?_, hxy⟩
  unfold keyT
  have := AscF.le h (Nat.le_of_lt hxy) hy
  simp only [decide_eq_false_iff_not]
  omega

theorem OutPI.rd {w w' : World} {n : Nat} {f : Nat → Int × Int} {p : Nat → Nat} {e : Ending} (h : OutPI w n f p e w') : ∃ A c, e = .returned (.slice A n c) ∧ RdI w' w'.heap.size A n (fun k => f (p k)) ∧ Below w.heap.size w w' := by
  obtain ⟨v, rfl, ⟨G, hG, hF⟩, hb⟩ := h
  obtain ⟨A, c, rfl, hr⟩ := hG.rdI hF
  exact ⟨A, c, rfl, hr, hb⟩


end Go.Proofs.Ytjammaglboehcaa
