/-
  The contract of laws.ascending: it tells whether no number is less than the one ahead of it.
-/
import Derived.Test.YtjddpbamnjdjcaaProg
import Derived.Test.YtjddpbamnjdjcaaWords
namespace Go.Proofs.Ytjddpbamnjdjcaa
open Go.RowKit Go.Proofs
set_option linter.unusedVariables false

/-- No number is less than the one ahead of it. -/
def AscF (f : Nat → Int) (n : Nat) : Prop := ∀ i, 1 ≤ i → i < n → f (i - 1) ≤ f i

theorem AscF.le {f : Nat → Int} {n : Nat} (h : AscF f n) {i j : Nat} (hij : i ≤ j) (hj : j < n) : f i ≤ f j := by
  induction j with
  | zero => obtain rfl : i = 0 := by omega
            exact Int.le_refl _
  | succ j ih =>
    rcases Nat.lt_or_ge j i with hh | hh
    · obtain rfl : i = j + 1 := by omega
      exact Int.le_refl _
    · have h1 := ih hh (by omega)
      have h2 := h (j + 1) (by omega) hj
      simp only [Nat.add_sub_cancel] at h2
      omega

/-- A call that only reads, and tells whether p. -/
def Tells (p : Prop) (w : World) (e : Ending) (w' : World) : Prop := ∃ b : Bool, e = .returned (.bool b) ∧ (b = true ↔ p) ∧ ∃ q, w' = w.drewN q

set_option maxHeartbeats 1000000 in
theorem ascending (n c : Nat) (A : Option Addr) (f : Nat → Int) (w : World) (B : Nat) (hn : n ≤ 9223372036854775807) (hrd : Rd w B (Value.int .i64) A n f) :
    Calls Try.prog 28 #[.slice A n c] w (Tells (AscF f n) w) := by
  have HR := Lib.hid hrd; clear hrd
  go_enter Try.func28, Try.ntmps28
  go_wp2
  go_loopw [3] (fun vi wr => ∃ k q : Nat, 1 ≤ k ∧ (k ≤ n ∨ k = 1) ∧ vi = .int .i64 k ∧ wr = w.drewN q ∧ Hid (AscF f k)) (fun vi _ => n - (intOf vi).toNat)
  case atStart => exact ⟨1, 0, by omega, .inr rfl, rfl, rfl, fun i h1 h2 => absurd h2 (by omega)⟩
  case round =>
    obtain ⟨k, q, hk, hk2, rfl, rfl, HI⟩ := hrel
    by_cases hlt : k < n
    · obtain ⟨b, off, rfl, _, hc⟩ := HR.out.at (show k - 1 < n by omega)
      obtain ⟨b', off', h', _, hc'⟩ := HR.out.at hlt
      simp only [Option.some.injEq, Addr.mk.injEq, and_true] at h'
      obtain ⟨rfl, rfl⟩ := h'
      have hz : (0 : Int) ≤ (k : Int) - 1 := by omega
      have hzl : (k : Int) - 1 < (n : Int) := by omega
      have hkl : (k : Int) < (n : Int) := by omega
      have hkn : ((k : Int) - 1).toNat = k - 1 := by omega
      have hwr : IntKind.i64.wrap ((k : Int) - 1) = (k : Int) - 1 := IntWalk.i64_in _ (by omega)
      generalize hx : f (k - 1) = x at hc
      generalize hy : f k = y at hc'
      have HX := Lib.hid hx; have HY := Lib.hid hy; clear hx hy
      by_cases hlt2 : y < x
      · go_wp2
        go_quiet (fail)
        go_wp2
        go_ret
        exact ⟨false, rfl, ⟨(fun h => by cases h), (fun h => by have := h k hk hlt; rw [HX.out, HY.out] at this; omega)⟩, _, World.drewN_drewN _ _ _⟩
      · go_wp2
        go_quiet (fail)
        go_wp2
        go_roundw
        case rel => exact ⟨k + 1, _, by omega, .inl hlt, by go_num, rfl, fun i a b => by
          rcases Nat.lt_succ_iff_lt_or_eq.1 b with h | h
          · exact HI.out i a h
          · rw [h, HX.out, HY.out]; omega⟩
        case measure => simp [intOf]; omega
    · go_wp2
      go_ret
      exact ⟨true, rfl, ⟨fun _ => fun i a b => HI.out i a (by omega), fun _ => rfl⟩, _, rfl⟩
end Go.Proofs.Ytjddpbamnjdjcaa
