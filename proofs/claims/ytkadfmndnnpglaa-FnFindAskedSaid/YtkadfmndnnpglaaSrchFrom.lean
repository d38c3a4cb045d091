/-
  The walks of the law FnSearchFrom: impl.SearchFrom and spec.SearchFrom by their contracts, and the law above them.
-/
import Derived.Test.YtkadfmndnnpglaaSrch
namespace Go.Proofs.Ytkadfmndnnpglaa
open Go.RowKit Go.Proofs
set_option linter.unusedVariables false

set_option maxHeartbeats 400000 in
theorem searchFrom1 (i k : Int) (b : Nat) (w : World) (hc : w.cell? ⟨b, 0, none⟩ = some (.int .i64 k)) :
    Calls Try.prog 35 (#[.int .i64 i] ++ #[.pointer (some ⟨b, 0, none⟩)]) w fun e w' => e = .returned (.bool (decide (k ≤ i))) ∧ w = w' := by
  go_enter Try.func35, Try.ntmps35
  go_wp2
  go_ret
  exact ⟨rfl, rfl⟩

theorem enters_from : ∀ args w, (callFunc 35 args).run Try.prog w = .ok (.enter 35 args) w := enters_of Try.func35 (by kernel_rfl) rfl

set_option maxHeartbeats 400000 in
theorem searchFrom (n : Nat) (k : Int) (w : World) (hn : n < 9223372036854775808) :
    Calls Try.prog 15 #[.int .i64 n, .int .i64 k] w fun e w' => e = .returned (.int .i64 (srch (fun i => decide (k ≤ (i : Int))) n 0 n []).1) ∧ Below w.heap.size w w' := by
  have hS := search_any 35 #[.pointer (some ⟨w.heap.size, 0, none⟩)] n (fun i => decide (k ≤ (i : Int))) (fun _ w' => w' = w.alloc (.cells #[.int .i64 k] 3)) (w.alloc (.cells #[.int .i64 k] 3)) hn enters_from
    (fun l w1 i hi hw => by
      subst hw
      exact (searchFrom1 i k w.heap.size _ (cell_new _ _ _)).mono fun e w' ⟨he, hw⟩ => ⟨he, hw.symm⟩) rfl
  generalize (srch (fun i => decide (k ≤ (i : Int))) n 0 n []).1 = r at hS ⊢
  have HS := Lib.hid hS; clear hS
  go_enter Try.func15, Try.ntmps15
  go_wp2_with fail
  refine HS.out.mono ?_
  rintro e w' ⟨rfl, rfl⟩
  go_wp2_with fail
  go_ret
  exact ⟨rfl, (Below.refl _ _).alloc (Nat.le_refl _) _⟩

def fromSpec (n k : Int) : Int := if k < 0 then 0 else if n < k then n else k
set_option maxHeartbeats 400000 in
theorem specSearchFrom (n k : Int) (w : World) :
    Calls Try.prog 16 #[.int .i64 n, .int .i64 k] w fun e w' => e = .returned (.int .i64 (fromSpec n k)) ∧ w = w' := by
  by_cases h1 : k < 0
  · have HF := Lib.hid (show fromSpec n k = 0 from if_pos h1)
    go_enter Try.func16, Try.ntmps16
    go_wp2
    go_ret
    exact ⟨by rw [HF.out]; rfl, rfl⟩
  · by_cases h2 : n < k
    · have HF := Lib.hid (show fromSpec n k = n by unfold fromSpec; rw [if_neg h1, if_pos h2])
      go_enter Try.func16, Try.ntmps16
      go_wp2
      go_ret
      exact ⟨by rw [HF.out]; rfl, rfl⟩
    · have HF := Lib.hid (show fromSpec n k = k by unfold fromSpec; rw [if_neg h1, if_neg h2])
      go_enter Try.func16, Try.ntmps16
      go_wp2
      go_ret
      exact ⟨by rw [HF.out]; rfl, rfl⟩

theorem from_law (n : Nat) (k : Int) : (((srch (fun i => decide (k ≤ (i : Int))) n 0 n []).1 : Nat) : Int) = fromSpec n k := by
  unfold fromSpec
  rw [srch_first _ n (min k.toNat n) (Nat.min_le_right _ _) (fun i hi => decide_eq_false (by omega)) (fun i h1 h2 => decide_eq_true (by omega))]
  split
  · omega
  · split <;> omega

set_option maxHeartbeats 400000 in
theorem fnSearchFromw (w : World) (n : Int) (hn : I64 n) (k : Int) (hk : I64 k) :
    Calls Try.prog 3 #[.int .i64 n, .int .i64 k] w fun e w' => e = .returned (.bool true) ∧ Below w.heap.size w w' := by
  by_cases h0 : n < 0
  · go_enter Try.func3, Try.ntmps3
    go_wp2_with fail
    go_ret
    exact ⟨rfl, Below.refl _ _⟩
  · obtain ⟨m, rfl⟩ := Int.eq_ofNat_of_zero_le (show 0 ≤ n by omega)
    unfold I64 at hn
    have hm : m < 9223372036854775808 := by omega
    have h1 := searchFrom m k w hm
    rw [from_law] at h1
    have h2 := fun w => specSearchFrom m k w
    have heq : (fromSpec m k == fromSpec m k) = true := by simp
    generalize fromSpec m k = r at h1 h2 heq
    have H1 := Lib.hid h1; have H2 := Lib.hid h2; clear h1 h2
    have hd : decide ((m : Int) < 0) = false := decide_eq_false h0
    clear h0 hk
    go_enter Try.func3, Try.ntmps3
    go_wp2_with fail
    refine H1.out.mono ?_
    rintro e w1 ⟨rfl, hb⟩
    go_wp2_with fail
    refine (H2.out _).mono ?_
    rintro e w2 ⟨rfl, rfl⟩
    go_wp2_with fail
    go_ret
    exact ⟨rfl, hb⟩
end Go.Proofs.Ytkadfmndnnpglaa
