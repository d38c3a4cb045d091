/-
  The walks of countInt, sameNumbers and sameInts, and of the laws FnSortStableByAnyRelation and FnSortStableByOrder.
-/
import Derived.Test.YtkklbnheiganlaaStOr
import Derived.Test.YtkklbnheiganlaaStC
namespace Go.Proofs.Ytkklbnheiganlaa
open Go.RowKit Go.Proofs
set_option linter.unusedVariables false

set_option maxHeartbeats 1000000 in
theorem countInt (A : Option Addr) (n c B : Nat) (f : Nat → Int) (x : Int) (w : World) (hn : n ≤ 4611686018427387903) (hrd : Rd w B (Value.int .i64) A n f) :
    Calls Try.prog 51 #[.slice A n c, .int .i64 x] w fun e w' => e = .returned (.int .i64 (cnt (fun k => f k == x) n)) ∧ ∃ q, w' = w.drewN q := by
  have HR := Lib.hid hrd; clear hrd
  go_enter Try.func51, Try.ntmps51
  go_wp2_with fail
  go_loop [5, 10] (fun vc vi => ∃ k : Nat, k ≤ n ∧ vi = .int .i64 k ∧ vc = .int .i64 (cnt (fun k => f k == x) k)) (fun _ vi => n - (intOf vi).toNat)
  case atStart => exact ⟨0, Nat.zero_le _, rfl, rfl⟩
  case round =>
    obtain ⟨k, hk, rfl, rfl⟩ := hrel
    have hcl := cnt_le (fun k => f k == x) k
    have hcs : cnt (fun k => f k == x) (k + 1) = cnt (fun k => f k == x) k + (if (f k == x) = true then 1 else 0) := rfl
    have HCS := Lib.hid hcs; clear hcs
    generalize hc0 : cnt (fun k => f k == x) k = c0 at *
    have HC0 := Lib.hid hc0; clear hc0
    by_cases hlt : k < n
    · obtain ⟨b, off, rfl, _, hc⟩ := HR.out.at hlt
      generalize hy : f k = y at hc
      have HY := Lib.hid hy; clear hy
      by_cases he : y = x
      · have hq : (y == x) = true := by simpa using he
        have HQ := Lib.hid hq
        go_wp2_with fail
        go_round
        case rel => exact ⟨k + 1, hlt, by go_num, by rw [HCS.out, HY.out, HQ.out, if_pos rfl]; go_num⟩
        case measure => simp [intOf]; omega
      · have hq : (y == x) = false := by simpa using he
        have HQ := Lib.hid hq
        go_wp2_with fail
        go_round
        case rel => exact ⟨k + 1, hlt, by go_num, by rw [HCS.out, HY.out, HQ.out, if_neg (by simp)]; rfl⟩
        case measure => simp [intOf]; omega
    · obtain rfl : k = n := by omega
      clear HCS
      go_wp2_with fail
      go_ret
      exact ⟨by rw [HC0.out]; rfl, 0, rfl⟩

/-- Two lists of n numbers with the same counts are told to have the same numbers. -/
def TrueQ (w : World) (e : Ending) (w' : World) : Prop := e = .returned (.bool true) ∧ ∃ q, w' = w.drewN q

set_option maxHeartbeats 1000000 in
theorem sameNumbers (A A' : Option Addr) (n c c' B B' : Nat) (f g : Nat → Int) (w : World) (hn : n ≤ 4611686018427387903) (hrd : Rd w B (Value.int .i64) A n f) (hrd' : Rd w B' (Value.int .i64) A' n g)
    (hc : ∀ x, cnt (fun k => f k == x) n = cnt (fun k => g k == x) n) :
    Calls Try.prog 23 #[.slice A n c, .slice A' n c'] w (TrueQ w) := by
  have HA := Lib.hid (fun x q => countInt A n c B f x (w.drewN q) hn (hrd.drewN q))
  have HB := Lib.hid (fun x q => countInt A' n c' B' g x (w.drewN q) hn (hrd'.drewN q))
  have HC := Lib.hid hc
  have HR := Lib.hid hrd
  have hne : ((n : Int) != (n : Int)) = false := by simp
  clear hrd hrd' hc
  go_enter Try.func23, Try.ntmps23
  go_wp2_with fail
  go_loopw [14] (fun vi wr => ∃ k q : Nat, k ≤ n ∧ vi = .int .i64 k ∧ wr = w.drewN q) (fun vi _ => n - (intOf vi).toNat)
  case atStart => exact ⟨0, 0, Nat.zero_le _, rfl, rfl⟩
  case round =>
    obtain ⟨k, q, hk, rfl, rfl⟩ := hrel
    by_cases hlt : k < n
    · obtain ⟨b, off, rfl, _, hcl⟩ := HR.out.at hlt
      generalize f k = y at hcl
      have h1 := HA.out y q
      have h2 := fun q => HB.out y q
      rw [HC.out y] at h1
      generalize cnt (fun k => g k == y) n = c0 at h1 h2
      have H1 := Lib.hid h1; have H2 := Lib.hid h2; clear h1 h2
      have hcc : ((c0 : Int) != (c0 : Int)) = false := by simp
      go_wp2_with fail
      refine H1.out.mono ?_
      rintro e w1 ⟨rfl, q1, rfl⟩
      rw [World.drewN_drewN]
      go_wp2_with fail
      refine (H2.out _).mono ?_
      rintro e w2 ⟨rfl, q2, rfl⟩
      rw [World.drewN_drewN]
      go_wp2_with fail
      go_roundw
      case rel => exact ⟨k + 1, _, hlt, by go_num, rfl⟩
      case measure => simp [intOf]; omega
    · go_wp2_with fail
      go_ret
      exact ⟨rfl, q, rfl⟩
end Go.Proofs.Ytkklbnheiganlaa
