/-
  Lists of strings in ascending order, byte by byte; the contract of laws.ascendingTexts.
-/
import Derived.Test.YtjddpbamnjdjcaaAsc
import Derived.Test.YtjddpbamnjdjcaaEarl
namespace Go.Proofs.Ytjddpbamnjdjcaa
open Go.RowKit Go.Proofs
set_option linter.unusedVariables false

/-- No string is before the one ahead of it. -/
def AscS (f : Nat → ByteArray) (n : Nat) : Prop := ∀ i, 1 ≤ i → i < n → ltS (f i) (f (i - 1)) = false

theorem ltS_false_trans {a b c : ByteArray} (h1 : ltS a b = false) (h2 : ltS b c = false) : ltS a c = false := by
  simp only [ltS, decide_eq_false_iff_not] at *
  exact fun h => h2 (List.lt_of_le_of_lt (List.not_lt.1 h1) h)

theorem AscS.le {f : Nat → ByteArray} {n : Nat} (h : AscS f n) {i j : Nat} (hij : i ≤ j) (hj : j < n) : ltS (f j) (f i) = false := by
  induction j with
  | zero => obtain rfl : i = 0 := by omega
            simp only [ltS, decide_eq_false_iff_not]; exact List.lt_irrefl _
  | succ j ih =>
    rcases Nat.lt_or_ge j i with hh | hh
    · obtain rfl : i = j + 1 := by omega
      simp only [ltS, decide_eq_false_iff_not]; exact List.lt_irrefl _
    · have h1 := ih hh (by omega)
      have h2 := h (j + 1) (by omega) hj
      simp only [Nat.add_sub_cancel] at h2
      exact ltS_false_trans h2 h1

set_option maxHeartbeats 1000000 in
theorem ascendingTexts (n c : Nat) (A : Option Addr) (f : Nat → ByteArray) (hfs : ∀ i, (f i).size ≤ 9223372036854775807) (w : World) (B : Nat) (hn : n ≤ 9223372036854775807) (hrd : Rd w B Value.string A n f) :
    Calls Try.prog 30 #[.slice A n c] w (Tells (AscS f n) w) := by
  have HR := Lib.hid hrd; clear hrd
  have HFS := Lib.hid hfs; clear hfs
  go_enter Try.func30, Try.ntmps30
  go_wp2
  go_loopw [3] (fun vi wr => ∃ k q : Nat, 1 ≤ k ∧ (k ≤ n ∨ k = 1) ∧ vi = .int .i64 k ∧ wr = w.drewN q ∧ Hid (AscS f k)) (fun vi _ => n - (intOf vi).toNat)
  case atStart => exact ⟨1, 0, by omega, .inr rfl, rfl, rfl, fun i h1 h2 => absurd h2 (by omega)⟩
  case round =>
    obtain ⟨k, q, hk, hk2, rfl, rfl, HI⟩ := hrel
    by_cases hlt : k < n
    · obtain ⟨b, off, rfl, _, hc⟩ := HR.out.at (show k - 1 < n by omega)
      obtain ⟨b', off', h', _, hc'⟩ := HR.out.at hlt
      simp only [Option.some.injEq, Addr.mk.injEq, and_true] at h'
      obtain ⟨rfl, rfl⟩ := h'
      have hz : (0 : Int) ≤ (k : Int) - 1 := by omega
      have hzl : (k : Int) - 1 < (n : Int) := by omega
      have hkl : (k : Int) < (n : Int) := by omega
      have hkn : ((k : Int) - 1).toNat = k - 1 := by omega
      have hwr : IntKind.i64.wrap ((k : Int) - 1) = (k : Int) - 1 := IntWalk.i64_in _ (by omega)
      have HE := Lib.hid (fun w => earlierLaws (f k) (f (k - 1)) w (HFS.out k) (HFS.out (k - 1)))
      generalize hx : f (k - 1) = x at hc HE
      generalize hy : f k = y at hc' HE
      have HX := Lib.hid hx; have HY := Lib.hid hy; clear hx hy
      cases hl2 : ltS y x
      · rw [hl2] at HE
        have HL := Lib.hid hl2; clear hl2
        go_wp2_with fail
        go_quiet ((go_at_call 51; exact quiet_more (HE.out _)))
        go_wp2_with fail
        go_roundw
        case rel => exact ⟨k + 1, _, by omega, .inl hlt, by go_num, rfl, fun i a b => by
          rcases Nat.lt_succ_iff_lt_or_eq.1 b with h | h
          · exact HI.out i a h
          · rw [h, HX.out, HY.out]; exact HL.out⟩
        case measure => simp [intOf]; omega
      · rw [hl2] at HE
        have HL := Lib.hid hl2; clear hl2
        go_wp2_with fail
        go_quiet ((go_at_call 51; exact quiet_more (HE.out _)))
        go_wp2_with fail
        go_ret
        exact ⟨false, rfl, ⟨(fun h => by cases h), (fun h => by have := h k hk hlt; rw [HX.out, HY.out, HL.out] at this; cases this)⟩, _, World.drewN_drewN _ _ _⟩
    · go_wp2_with fail
      go_ret
      exact ⟨true, rfl, ⟨fun _ => fun i a b => HI.out i a (by omega), fun _ => rfl⟩, _, rfl⟩

end Go.Proofs.Ytjddpbamnjdjcaa
