/-
  The walks of impl.compare and impl.byWhole.
-/
import Derived.Test.YtjammaglboehcaaWords
import Derived.Test.YtjammaglboehcaaProg
namespace Go.Proofs.Ytjammaglboehcaa
open Go.RowKit Go.Proofs
set_option linter.unusedVariables false

def cmpI (a b : Int) : Int := if a < b then -1 else if b < a then 1 else 0
theorem cmpI_neg (a b : Int) : decide (cmpI a b < 0) = decide (a < b) := by
  unfold cmpI
  by_cases h : a < b
  · simp [h]
  · rw [if_neg h]; split <;> simp <;> omega
set_option maxHeartbeats 1000000 in
theorem compare (a b : Int) (w : World) : Calls Try.prog 59 #[.int .i64 a, .int .i64 b] w fun e w' => e = .returned (.int .i64 (cmpI a b)) ∧ w = w' := by
  unfold cmpI
  by_cases h : a < b
  · rw [if_pos h]
    go_enter Try.func59, Try.ntmps59
    go_wp2_with fail
    go_ret
    exact ⟨rfl, rfl⟩
  · rw [if_neg h]
    by_cases h2 : b < a
    · rw [if_pos h2]
      have h3 : a > b := h2
      go_enter Try.func59, Try.ntmps59
      go_wp2_with fail
      go_ret
      exact ⟨rfl, rfl⟩
    · rw [if_neg h2]
      have h3 : ¬ (a > b) := h2
      go_enter Try.func59, Try.ntmps59
      go_wp2_with fail
      go_ret
      exact ⟨rfl, rfl⟩

/-- Keys first, then tags. -/
def lexB (x y : Int × Int) : Bool := decide (x.1 < y.1) || (decide (x.1 = y.1) && decide (x.2 < y.2))
def cmpW (x y : Int × Int) : Int := if cmpI x.1 y.1 = 0 then cmpI x.2 y.2 else cmpI x.1 y.1
theorem cmpI_zero (a b : Int) : cmpI a b = 0 ↔ a = b := by
  unfold cmpI
  by_cases h : a < b
  · rw [if_pos h]; omega
  · rw [if_neg h]
    by_cases h2 : b < a
    · rw [if_pos h2]; omega
    · rw [if_neg h2]; omega
theorem cmpW_neg (x y : Int × Int) : decide (cmpW x y < 0) = lexB x y := by
  unfold cmpW lexB
  by_cases h : x.1 = y.1
  · rw [if_pos ((cmpI_zero _ _).2 h), cmpI_neg]
    have h1 : decide (x.1 < y.1) = false := decide_eq_false (by omega)
    rw [h1, decide_eq_true h]; rfl
  · rw [if_neg (fun e => h ((cmpI_zero _ _).1 e)), cmpI_neg, decide_eq_false h]
    simp
set_option maxHeartbeats 1000000 in
theorem byWhole (x y : Int × Int) (w : World) : Calls Try.prog 42 #[.agg #[.int .i64 x.1, .int .i64 x.2], .agg #[.int .i64 y.1, .int .i64 y.2]] w fun e w' => e = .returned (.int .i64 (cmpW x y)) ∧ Below w.heap.size w w' := by
  have HC := Lib.hid (fun w' => compare x.1 y.1 w')
  have HD := Lib.hid (fun w' => compare x.2 y.2 w')
  have HB := Lib.hid (fun o o' => ((Below.refl w.heap.size w).alloc (Nat.le_refl _) o).alloc (by simp) o')
  have HE := Lib.hid (show cmpW x y = if cmpI x.1 y.1 = 0 then cmpI x.2 y.2 else cmpI x.1 y.1 from rfl)
  generalize cmpW x y = z at *
  generalize cmpI x.1 y.1 = r at *
  generalize cmpI x.2 y.2 = r2 at *
  by_cases hr : r = 0
  · subst hr
    have HE2 : Hid (z = r2) := Lib.hid (by rw [HE.out, if_pos rfl])
    clear HE
    go_enter Try.func42, Try.ntmps42
    go_wp2_with fail
    refine (HC.out _).mono ?_
    rintro e w1 ⟨rfl, rfl⟩
    go_wp2_with fail
    refine (HD.out _).mono ?_
    rintro e w1 ⟨rfl, rfl⟩
    go_wp2_with fail
    go_ret
    exact ⟨by rw [HE2.out]; rfl, HB.out _ _⟩
  · have HE2 : Hid (z = r) := Lib.hid (by rw [HE.out, if_neg hr])
    have hrz : (r != 0) = true := by simpa using hr
    clear HE
    go_enter Try.func42, Try.ntmps42
    go_wp2_with fail
    refine (HC.out _).mono ?_
    rintro e w1 ⟨rfl, rfl⟩
    go_wp2_with fail
    go_ret
    exact ⟨by rw [HE2.out]; rfl, HB.out _ _⟩
end Go.Proofs.Ytjammaglboehcaa
