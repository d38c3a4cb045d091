/-
  The plain law and the walk of the law FnSortStableByOrder.
-/
import Derived.Test.YtkklbnheiganlaaStS
import Derived.Test.YtkklbnheiganlaaSame
import Derived.Test.YtkklbnheiganlaaIsO
import Derived.Deep.RegionHeld3
namespace Go.Proofs.Ytkklbnheiganlaa
open Go.RowKit Go.Proofs
set_option linter.unusedVariables false

theorem w3_trans {r : Int → Int → Bool} {a b c : Int} (h : weak3 r a b c = true) (h1 : r a b = true) (h2 : r b c = true) : r a c = true := by
  unfold weak3 at h; rw [h1, h2] at h
  cases hc : r a c
  · rw [hc] at h; simp at h
  · rfl
theorem w3_inc {r : Int → Int → Bool} {a b c : Int} (h : weak3 r a b c = true) (h1 : r a b = false) (h2 : r b a = false) (h3 : r b c = false) (h4 : r c b = false) : r a c = false ∧ r c a = false := by
  unfold weak3 at h; rw [h1, h2, h3, h4] at h
  simpa using h

/-- A strict weak order of a list's numbers, as one of all places. -/
theorem swo_of_weak {r : Int → Int → Bool} {f : Nat → Int} {n : Nat} (h : WeakP r f n) : ∃ T : Nat → Nat → Bool, Swo T ∧ ∀ i j, i < n → j < n → T i j = r (f i) (f j) := by
  by_cases h0 : n = 0
  · exact ⟨fun _ _ => false, ⟨fun _ => rfl, fun _ _ _ h => absurd h (by simp), fun _ _ _ _ _ => rfl⟩, fun i j hi => absurd hi (by omega)⟩
  · have hl : ∀ i, min i (n - 1) < n := fun i => by omega
    refine ⟨fun i j => r (f (min i (n - 1))) (f (min j (n - 1))), ⟨fun i => (h _ (hl i)).1, fun i j k h1 h2 => w3_trans (((h _ (hl i)).2 _ (hl j)).2 _ (hl k)) h1 h2, fun i j k h1 h2 => ?_⟩, fun i j hi hj => by
      have e1 : min i (n - 1) = i := by omega
      have e2 : min j (n - 1) = j := by omega
      simp only [e1, e2]⟩
    have hi := hl i; have hj := hl j; have hk := hl k
    generalize min i (n - 1) = i at *
    generalize min j (n - 1) = j at *
    generalize min k (n - 1) = k at *
    cases hc : r (f k) (f i)
    · rfl
    · exfalso
      cases hab : r (f i) (f j)
      · cases hbc : r (f j) (f k)
        · have := (w3_inc (((h i hi).2 j hj).2 k hk) hab h1 hbc h2).2
          rw [hc] at this; cases this
        · have := w3_trans (((h j hj).2 k hk).2 i hi) hbc hc
          rw [h1] at this; cases this
      · have := w3_trans (((h k hk).2 i hi).2 j hj) hc hab
        rw [h2] at this; cases this

theorem ranked {T T0 : Nat → Nat → Bool} {n : Nat} (S : Swo T) (hT : ∀ i j, i < n → j < n → T i j = T0 i j) :
    (∀ i, i < n → cnt (fun j => bfB T0 j i) n < n) ∧ (∀ a b, a < n → b < n → cnt (fun j => bfB T0 j a) n = cnt (fun j => bfB T0 j b) n → a = b) ∧ ∀ k, k < n → cnt (fun j => bfB T0 j (stable (tabM T) n (fun k => k) k)) n = k := by
  have hp := stable_perm T n
  have ho := stable_ord S n
  have hc := stable_count T n
  generalize stable (tabM T) n (fun k => k) = p at *
  have he : ∀ i, i < n → cnt (fun j => bfB T0 j i) n = cnt (fun j => bfB T j i) n := fun i hi => cnt_congr fun j hj => by
    unfold bfB; rw [hT _ _ hj hi, hT _ _ hi hj]
  have hk : ∀ k, k < n → cnt (fun j => bfB T0 j (p k)) n = k := fun k hk => by rw [he _ (hp.1 k hk)]; exact rank_of S hc ho hk
  refine ⟨fun i hi => ?_, fun a b ha hb hab => ?_, hk⟩
  · obtain ⟨k, hk1, rfl⟩ := hc.onto hi
    rw [hk k hk1]; exact hk1
  · obtain ⟨k, hk1, rfl⟩ := hc.onto ha
    obtain ⟨l, hl1, rfl⟩ := hc.onto hb
    rw [hk k hk1, hk l hl1] at hab
    rw [hab]

theorem OutR.rd {w w' : World} {n : Nat} {f : Nat → Int} {rk p : Nat → Nat} {e : Ending} (h : OutR w n f rk e w') (hp : ∀ k, k < n → p k < n) (hk : ∀ k, k < n → rk (p k) = k) :
    ∃ A c, e = .returned (.slice A n c) ∧ Rd w' w'.heap.size (Value.int .i64) A n (fun k => f (p k)) ∧ Below w.heap.size w w' := by
  obtain ⟨g, F, rfl, hg, hr, hP, hb⟩ := h
  exact ⟨_, n, rfl, fun _ => ⟨g, 0, rfl, hr.lt, fun i hi => by
    rw [Nat.zero_add, hr.cell hi]
    have := hP (p i) (hp i hi)
    rw [hk i hi] at this
    rw [this]⟩, hb⟩

end Go.Proofs.Ytkklbnheiganlaa
