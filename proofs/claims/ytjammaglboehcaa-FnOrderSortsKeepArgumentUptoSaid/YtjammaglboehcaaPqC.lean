/-
  What sort.Sort leaves: it keeps every count, and by a strict weak order none comes before one ahead of it. No program of Go is named here.
-/
import Derived.Test.YtjammaglboehcaaPqQ
import Derived.Test.YtjammaglboehcaaStC
namespace Go.Proofs.Ytjammaglboehcaa
set_option linter.unusedVariables false

theorem count_congr {n : Nat} {p q : Nat → Nat} (h : Count n p) (he : ∀ k, k < n → q k = p k) : Count n q := fun r => by
  rw [← h r]; exact cnt_congr fun k hk => by rw [he k hk]
theorem tabA_counts (T : Nat → Nat → Bool) (n : Nat) : Keeps (tabA T) n (fun d => PermA n d ∧ Count n (atA d)) :=
  ⟨fun _ _ _ _ _ h => h, fun d i j hi hj h => ⟨permA_swp h.1 hi hj, count_congr ((count_keeps T n).swap (atA d) i j hi hj h.2) fun k hk => atA_swp h.1.1 hi hj hk⟩⟩
theorem sortP_count (T : Nat → Nat → Bool) (n : Nat) : Count n (sortP T n) :=
  ((way_pdqS (n := n) othR_ok _).keep (tabA_counts T n) ⟨permA_id n, count_congr (count_id n) fun k hk => idA_at hk⟩).2
theorem sortP_in (T : Nat → Nat → Bool) {n k : Nat} (h : k < n) : sortP T n k < n := (sortP_perm T n).1 k h
theorem swo_SWO {T : Nat → Nat → Bool} (S : Swo T) : Sort.SWO T := ⟨S.irrefl, fun x y z h1 h2 => S.trans x y z h1 h2, fun x y z h1 h2 => S.pass z y x h2 h1⟩
theorem sortP_sorted {T : Nat → Nat → Bool} (S : Swo T) {n : Nat} (hn : n < 18446744073709551616) {i j : Nat} (hij : i < j) (hj : j < n) : T (sortP T n j) (sortP T n i) = false :=
  pdqS_sorts (tabA_arr T) (swo_SWO S) (idA n) n (permA_id n).1 hn i j (Nat.zero_le _) hij hj
end Go.Proofs.Ytjammaglboehcaa
