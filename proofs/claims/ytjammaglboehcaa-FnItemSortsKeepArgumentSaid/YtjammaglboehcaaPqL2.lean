/-
  Items in order by keys and tags; the walks of the laws FnSortStableTwice, FnSortSortItemsSorts.
-/
import Derived.Test.YtjammaglboehcaaPqQ2
import Derived.Test.YtjammaglboehcaaPqC
import Derived.Test.YtjammaglboehcaaPlL
import Derived.Test.YtjammaglboehcaaZL
import Derived.Test.YtjammaglboehcaaPqE
namespace Go.Proofs.Ytjammaglboehcaa
open Go.RowKit Go.Proofs
set_option linter.unusedVariables false

theorem lexB_iff {x y : Int × Int} : lexB x y = true ↔ x.1 < y.1 ∨ (x.1 = y.1 ∧ x.2 < y.2) := by unfold lexB; simp
theorem lexB_no {x y : Int × Int} : lexB x y = false ↔ y.1 < x.1 ∨ (x.1 = y.1 ∧ y.2 ≤ x.2) := by
  rw [Bool.eq_false_iff, Ne, lexB_iff]; omega
/-- x does not come behind y -/
def lexL (x y : Int × Int) : Bool := !lexB y x
theorem lexL_iff {x y : Int × Int} : lexL x y = true ↔ x.1 < y.1 ∨ (x.1 = y.1 ∧ x.2 ≤ y.2) := by
  unfold lexL; rw [Bool.not_eq_true', lexB_no]; omega
theorem lin_lex : Lin lexL :=
  ⟨fun a b c h1 h2 => by rw [lexL_iff] at *; omega, fun a b => by rw [Bool.or_eq_true, lexL_iff, lexL_iff]; omega, fun a b h1 h2 => by rw [lexL_iff] at h1 h2; exact Prod.ext (by omega) (by omega)⟩
theorem lexG_swo : SwoG lexB := ⟨fun a => by rw [lexB_no]; omega, fun a b c h1 h2 => by rw [lexB_iff] at *; omega, fun a b c h1 h2 => by rw [lexB_no] at *; omega⟩
theorem lexT_swo (f : Nat → Int × Int) : Swo (lexT f) := lexG_swo.at f
theorem sortLex_asc (f : Nat → Int × Int) {n : Nat} (hn : n < 18446744073709551616) : AscG lexL (fun k => f (sortP (lexT f) n k)) n := fun i j hij hj => by
  have := sortP_sorted (lexT_swo f) hn hij hj
  unfold lexL
  rw [show lexB (f (sortP (lexT f) n j)) (f (sortP (lexT f) n i)) = false from this]; rfl
theorem sortLex_cnt (f : Nat → Int × Int) (n : Nat) (x : Int × Int) : cnt (fun k => decide (f (sortP (lexT f) n k) = x)) n = cnt (fun k => decide (f k = x)) n := sortP_count (lexT f) n (fun k => decide (f k = x))
/-- The list that is in order by keys and tags. -/
theorem sortLex_unique (f g : Nat → Int × Int) {n : Nat} (hn : n < 18446744073709551616) (hg : AscG lexL g n) (hc : ∀ x, cnt (fun k => decide (g k = x)) n = cnt (fun k => decide (f k = x)) n) : ∀ k, k < n → g k = f (sortP (lexT f) n k) :=
  asc_unique lin_lex hg (sortLex_asc f hn) fun x => by rw [hc x, sortLex_cnt f n x]

theorem keyT_yes {f : Nat → Int × Int} {i j : Nat} : keyT f i j = true ↔ (f i).1 < (f j).1 := by unfold keyT; simp
theorem keyT_no {f : Nat → Int × Int} {i j : Nat} : keyT f i j = false ↔ (f j).1 ≤ (f i).1 := by unfold keyT; simp
/-- Stably by tags, then stably by keys. -/
theorem twice_asc (f t : Nat → Int × Int) (n : Nat) (p : Nat → Nat) (hp : Ord (keyT t) p 0 n) (ht : ∀ k, (t k).1 = (f k).2) (q : Nat → Nat) (hq : PermN n q) (ho : Ord (keyT fun k => f (p k)) q 0 n) : AscG lexL (fun k => f (p (q k))) n := fun i j hij hj => by
  show lexL (f (p (q i))) (f (p (q j))) = true
  rw [lexL_iff]
  rcases ho i j (Nat.zero_le _) hij hj with h | ⟨h, hlt⟩
  · rw [keyT_yes] at h; exact .inl h
  · rw [keyT_no] at h
    have h2 : (f (p (q i))).2 ≤ (f (p (q j))).2 := by
      rcases hp (q i) (q j) (Nat.zero_le _) hlt (hq.1 j hj) with g | ⟨g, _⟩
      · rw [keyT_yes, ht, ht] at g; omega
      · rw [keyT_no, ht, ht] at g; exact g
    omega


theorem sortKey_asc (f : Nat → Int × Int) {n : Nat} (hn : n < 18446744073709551616) : AscF (fun k => (f (sortP (keyT f) n k)).1) n := fun i h1 h2 => by
  have := sortP_sorted (keyT_swo f) hn (show i - 1 < i by omega) h2
  rw [keyT_no] at this
  exact this

end Go.Proofs.Ytjammaglboehcaa
