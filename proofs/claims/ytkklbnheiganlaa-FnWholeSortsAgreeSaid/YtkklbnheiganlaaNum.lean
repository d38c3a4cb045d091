/-
  The walks of impl.numbers and impl.texts (copies), countInt, sameNumbers, countText, sameWords.
-/
import Derived.Test.YtkklbnheiganlaaProg
import Derived.Test.YtkklbnheiganlaaPlL
import Derived.Test.YtkklbnheiganlaaCpyS
namespace Go.Proofs.Ytkklbnheiganlaa
open Go.RowKit Go.Proofs
set_option linter.unusedVariables false

theorem infoIntB : (Try.prog.info? 3).map (fun i => (i.zero, i.size, i.bytes)) = some (some (.int .i64 0), 1, 8) := by kernel_rfl

set_option maxHeartbeats 1000000 in
theorem numbersB (A : Option Addr) (n c B : Nat) (f : Nat → Int) (w : World) (hn : n * 8 ≤ 140737488351232) (hrd : Rd w B (Value.int .i64) A n f) :
    Calls Try.prog 50 #[.slice A n c] w fun e w' => ∃ v, e = .returned v ∧ Copied w 3 1 (fun j => .int .i64 (f j)) v n w' := by
  obtain ⟨i, hi, hz, hs, hby⟩ := info_parts infoIntB
  have HR := Lib.hid hrd; clear hrd
  go_enter Try.func50, Try.ntmps50
  go_wp2_with (at_builtin; refine wpList_copy_nil rfl _ _ 30 rfl 3 i _ 1 8 Try.underlying30 hi hz hs hby rfl (by omega) A n c (fun j => .int .i64 (f j)) rfl rfl (fun h => by obtain ⟨b, off, hA, _, hc⟩ := HR.out h; exact ⟨b, off, hA, fun j hj => hc j (by omega)⟩) (fun j hj => by simp [Value.oneCell']) (by simp [maxLen]; omega) (by omega) ?_; intro v1 w1 hcp; have HCp := Lib.hid hcp; clear hcp)
  go_ret
  exact ⟨v1, rfl, HCp.out⟩


/-- A call that returns true, and only reads. -/
def TrueB (w : World) (e : Ending) (w' : World) : Prop := e = .returned (.bool true) ∧ ∃ q, w' = w.drewN q

set_option maxHeartbeats 1000000 in
theorem countIntB (A : Option Addr) (n c B : Nat) (f : Nat → Int) (x : Int) (w : World) (hn : n ≤ 4611686018427387903) (hrd : Rd w B (Value.int .i64) A n f) :
    Calls Try.prog 51 #[.slice A n c, .int .i64 x] w fun e w' => e = .returned (.int .i64 (cnt (fun k => f k == x) n)) ∧ ∃ q, w' = w.drewN q := by
  have HR := Lib.hid hrd; clear hrd
  go_enter Try.func51, Try.ntmps51
  go_wp2_with fail
  go_loop [5, 10] (fun vc vi => ∃ k : Nat, k ≤ n ∧ vi = .int .i64 k ∧ vc = .int .i64 (cnt (fun k => f k == x) k)) (fun _ vi => n - (intOf vi).toNat)
  case atStart => exact ⟨0, Nat.zero_le _, rfl, rfl⟩
  case round =>
    obtain ⟨k, hk, rfl, rfl⟩ := hrel
    have hcl := cnt_le (fun k => f k == x) k
    have hcs : cnt (fun k => f k == x) (k + 1) = cnt (fun k => f k == x) k + (if (f k == x) = true then 1 else 0) := rfl
    have HCS := Lib.hid hcs; clear hcs
    generalize hc0 : cnt (fun k => f k == x) k = c0 at *
    have HC0 := Lib.hid hc0; clear hc0
    by_cases hlt : k < n
    · obtain ⟨b, off, rfl, _, hc⟩ := HR.out.at hlt
      generalize hy : f k = y at hc
      have HY := Lib.hid hy; clear hy
      by_cases he : y = x
      · have hq : (y == x) = true := by simpa using he
        have HQ := Lib.hid hq
        go_wp2_with fail
        go_round
        case rel => exact ⟨k + 1, hlt, by go_num, by rw [HCS.out, HY.out, HQ.out, if_pos rfl]; go_num⟩
        case measure => simp [intOf]; omega
      · have hq : (y == x) = false := by simpa using he
        have HQ := Lib.hid hq
        go_wp2_with fail
        go_round
        case rel => exact ⟨k + 1, hlt, by go_num, by rw [HCS.out, HY.out, HQ.out, if_neg (by simp)]; rfl⟩
        case measure => simp [intOf]; omega
    · obtain rfl : k = n := by omega
      clear HCS
      go_wp2_with fail
      go_ret
      exact ⟨by rw [HC0.out]; rfl, 0, rfl⟩

set_option maxHeartbeats 1000000 in
theorem sameNumbersB (A A' : Option Addr) (n c c' B B' : Nat) (f g : Nat → Int) (w : World) (hn : n ≤ 4611686018427387903) (hrd : Rd w B (Value.int .i64) A n f) (hrd' : Rd w B' (Value.int .i64) A' n g)
    (hc : ∀ x, cnt (fun k => f k == x) n = cnt (fun k => g k == x) n) :
    Calls Try.prog 23 #[.slice A n c, .slice A' n c'] w (TrueB w) := by
  have HA := Lib.hid (fun x q => countIntB A n c B f x (w.drewN q) hn (hrd.drewN q))
  have HB := Lib.hid (fun x q => countIntB A' n c' B' g x (w.drewN q) hn (hrd'.drewN q))
  have HC := Lib.hid hc
  have HR := Lib.hid hrd
  have hne : ((n : Int) != (n : Int)) = false := by simp
  clear hrd hrd' hc
  go_enter Try.func23, Try.ntmps23
  go_wp2_with fail
  go_loopw [14] (fun vi wr => ∃ k q : Nat, k ≤ n ∧ vi = .int .i64 k ∧ wr = w.drewN q) (fun vi _ => n - (intOf vi).toNat)
  case atStart => exact ⟨0, 0, Nat.zero_le _, rfl, rfl⟩
  case round =>
    obtain ⟨k, q, hk, rfl, rfl⟩ := hrel
    by_cases hlt : k < n
    · obtain ⟨b, off, rfl, _, hcl⟩ := HR.out.at hlt
      generalize f k = y at hcl
      have h1 := HA.out y q
      have h2 := fun q => HB.out y q
      rw [HC.out y] at h1
      generalize cnt (fun k => g k == y) n = c0 at h1 h2
      have H1 := Lib.hid h1; have H2 := Lib.hid h2; clear h1 h2
      have hcc : ((c0 : Int) != (c0 : Int)) = false := by simp
      go_wp2_with fail
      refine H1.out.mono ?_
      rintro e w1 ⟨rfl, q1, rfl⟩
      rw [World.drewN_drewN]
      go_wp2_with fail
      refine (H2.out _).mono ?_
      rintro e w2 ⟨rfl, q2, rfl⟩
      rw [World.drewN_drewN]
      go_wp2_with fail
      go_roundw
      case rel => exact ⟨k + 1, _, hlt, by go_num, rfl⟩
      case measure => simp [intOf]; omega
    · go_wp2_with fail
      go_ret
      exact ⟨rfl, q, rfl⟩

theorem bytes_extB {x y : ByteArray} (h : x.toList = y.toList) : x = y := by
  rw [ByteArray.toList_eq, ByteArray.toList_eq] at h
  cases x; cases y
  simp only [ByteArray.mk.injEq]
  exact Array.toList_inj.1 h


end Go.Proofs.Ytkklbnheiganlaa
