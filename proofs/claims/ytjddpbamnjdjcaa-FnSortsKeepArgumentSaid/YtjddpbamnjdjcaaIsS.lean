/-
  The walks of slices.IsSorted at int and string, of sort.IntsAreSorted and StringsAreSorted, of impl's and the reference's functions over them.
-/
import Derived.Test.YtjddpbamnjdjcaaAscT
namespace Go.Proofs.Ytjddpbamnjdjcaa
open Go.RowKit Go.Proofs
set_option linter.unusedVariables false

set_option maxHeartbeats 400000 in
theorem cmpLessI (x y : Int) (w : World) : Calls Try.prog 74 #[.int .i64 x, .int .i64 y] w fun e w' => e = .returned (.bool (decide (x < y))) ∧ ∃ q, w' = w.drewN q := by
  have hx : (x != x) = false := by simp
  go_enter Try.func74, Try.ntmps74
  go_wp2
  go_ret
  exact ⟨rfl, 0, rfl⟩
set_option maxHeartbeats 400000 in
theorem cmpLessS (x y : ByteArray) (w : World) : Calls Try.prog 67 #[.string x, .string y] w fun e w' => e = .returned (.bool (ltS x y)) ∧ ∃ q, w' = w.drewN q := by
  have HL := Lib.hid (bytesLess_ltS x y)
  generalize ltS x y = r at HL ⊢
  have hx : (x.toList != x.toList) = false := by simp
  go_enter Try.func67, Try.ntmps67
  go_wp2
  go_ret
  exact ⟨by rw [← HL.out]; rfl, 0, rfl⟩

set_option maxHeartbeats 1000000 in
theorem slIsSortedI (n c : Nat) (A : Option Addr) (f : Nat → Int) (w : World) (B : Nat) (hn : n ≤ 9223372036854775807) (hrd : Rd w B (Value.int .i64) A n f) :
    Calls Try.prog 66 #[.slice A n c] w (Tells (AscF f n) w) := by
  have HR := Lib.hid hrd; clear hrd
  go_enter Try.func66, Try.ntmps66
  go_wp2_with fail
  go_loopw [3] (fun vi wr => ∃ k q : Nat, k ≤ n ∧ vi = .int .i64 ((k : Int) - 1) ∧ wr = w.drewN q ∧ Hid (∀ i, 1 ≤ i → k ≤ i → i < n → f (i - 1) ≤ f i)) (fun vi _ => (intOf vi).toNat)
  case atStart => exact ⟨n, 0, Nat.le_refl _, rfl, rfl, fun i h1 h2 h3 => absurd h3 (by omega)⟩
  case round =>
    obtain ⟨k, q, hk, rfl, rfl, HI⟩ := hrel
    by_cases hlt : 2 ≤ k
    · obtain ⟨j, rfl⟩ : ∃ j, k = j + 2 := ⟨k - 2, by omega⟩
      obtain ⟨b, off, rfl, _, hc⟩ := HR.out.at (show j < n by omega)
      obtain ⟨b', off', h', _, hc'⟩ := HR.out.at (show j + 1 < n by omega)
      simp only [Option.some.injEq, Addr.mk.injEq, and_true] at h'
      obtain ⟨rfl, rfl⟩ := h'
      rw [show ((j + 2 : Nat) : Int) - 1 = ((j + 1 : Nat) : Int) by omega]
      have hz : (0 : Int) ≤ ((j + 1 : Nat) : Int) - 1 := by omega
      have hkl : ((j + 1 : Nat) : Int) < (n : Int) := by omega
      have hzl : ((j + 1 : Nat) : Int) - 1 < (n : Int) := by omega
      have hkn : (((j + 1 : Nat) : Int) - 1).toNat = j := by omega
      have hwr : IntKind.i64.wrap (((j + 1 : Nat) : Int) - 1) = ((j + 1 : Nat) : Int) - 1 := IntWalk.i64_in _ (by omega)
      have hpos : ((j + 1 : Nat) : Int) > 0 := by omega
      have HE := Lib.hid (fun w => cmpLessI (f (j + 1)) (f j) w)
      generalize hx : f j = x at hc HE
      generalize hy : f (j + 1) = y at hc' HE
      have HX := Lib.hid hx; have HY := Lib.hid hy; clear hx hy
      generalize hj1 : j + 1 = j1 at *
      have HJ := Lib.hid hj1; clear hj1
      by_cases hl2 : y < x
      · rw [decide_eq_true hl2] at HE
        go_wp2_with fail
        go_quiet ((go_at_call 74; exact quiet_more (HE.out _)))
        go_wp2_with fail
        go_ret
        exact ⟨false, rfl, ⟨(fun h => by cases h), (fun h => by
          have := h j1 (by have := HJ.out; omega) (by omega)
          rw [← HJ.out, Nat.add_sub_cancel, HX.out, HJ.out, HY.out] at this; omega)⟩, _, World.drewN_drewN _ _ _⟩
      · rw [decide_eq_false hl2] at HE
        go_wp2_with fail
        go_quiet ((go_at_call 74; exact quiet_more (HE.out _)))
        go_wp2_with fail
        go_roundw
        case rel => exact ⟨j1, _, by omega, rfl, rfl, fun i a b c => by
          rcases Nat.lt_or_ge i (j + 2) with h | h
          · obtain rfl : i = j1 := by have := HJ.out; omega
            rw [← HJ.out, Nat.add_sub_cancel, HX.out, HJ.out, HY.out]; omega
          · exact HI.out i a h c⟩
        case measure => simp [intOf]; omega
    · have hle : ¬ ((k : Int) - 1 > 0) := by omega
      go_wp2_with fail
      go_ret
      exact ⟨true, rfl, ⟨fun _ => fun i a b => HI.out i a (by omega) b, fun _ => rfl⟩, _, rfl⟩
set_option maxHeartbeats 1000000 in
theorem slIsSortedS (n c : Nat) (A : Option Addr) (f : Nat → ByteArray) (w : World) (B : Nat) (hn : n ≤ 9223372036854775807) (hrd : Rd w B Value.string A n f) :
    Calls Try.prog 56 #[.slice A n c] w (Tells (AscS f n) w) := by
  have HR := Lib.hid hrd; clear hrd
  go_enter Try.func56, Try.ntmps56
  go_wp2_with fail
  go_loopw [3] (fun vi wr => ∃ k q : Nat, k ≤ n ∧ vi = .int .i64 ((k : Int) - 1) ∧ wr = w.drewN q ∧ Hid (∀ i, 1 ≤ i → k ≤ i → i < n → ltS (f i) (f (i - 1)) = false)) (fun vi _ => (intOf vi).toNat)
  case atStart => exact ⟨n, 0, Nat.le_refl _, rfl, rfl, fun i h1 h2 h3 => absurd h3 (by omega)⟩
  case round =>
    obtain ⟨k, q, hk, rfl, rfl, HI⟩ := hrel
    by_cases hlt : 2 ≤ k
    · obtain ⟨j, rfl⟩ : ∃ j, k = j + 2 := ⟨k - 2, by omega⟩
      obtain ⟨b, off, rfl, _, hc⟩ := HR.out.at (show j < n by omega)
      obtain ⟨b', off', h', _, hc'⟩ := HR.out.at (show j + 1 < n by omega)
      simp only [Option.some.injEq, Addr.mk.injEq, and_true] at h'
      obtain ⟨rfl, rfl⟩ := h'
      rw [show ((j + 2 : Nat) : Int) - 1 = ((j + 1 : Nat) : Int) by omega]
      have hz : (0 : Int) ≤ ((j + 1 : Nat) : Int) - 1 := by omega
      have hkl : ((j + 1 : Nat) : Int) < (n : Int) := by omega
      have hzl : ((j + 1 : Nat) : Int) - 1 < (n : Int) := by omega
      have hkn : (((j + 1 : Nat) : Int) - 1).toNat = j := by omega
      have hwr : IntKind.i64.wrap (((j + 1 : Nat) : Int) - 1) = ((j + 1 : Nat) : Int) - 1 := IntWalk.i64_in _ (by omega)
      have hpos : ((j + 1 : Nat) : Int) > 0 := by omega
      have HE := Lib.hid (fun w => cmpLessS (f (j + 1)) (f j) w)
      generalize hx : f j = x at hc HE
      generalize hy : f (j + 1) = y at hc' HE
      have HX := Lib.hid hx; have HY := Lib.hid hy; clear hx hy
      generalize hj1 : j + 1 = j1 at *
      have HJ := Lib.hid hj1; clear hj1
      by_cases hl2 : ltS y x = true
      · rw [hl2] at HE
        have HL := Lib.hid hl2; clear hl2
        go_wp2_with fail
        go_quiet ((go_at_call 67; exact quiet_more (HE.out _)))
        go_wp2_with fail
        go_ret
        exact ⟨false, rfl, ⟨(fun h => by cases h), (fun h => by
          have := h j1 (by have := HJ.out; omega) (by omega)
          rw [← HJ.out, Nat.add_sub_cancel, HX.out, HJ.out, HY.out, HL.out] at this; cases this)⟩, _, World.drewN_drewN _ _ _⟩
      · rw [Bool.not_eq_true] at hl2
        rw [hl2] at HE
        have HL := Lib.hid hl2; clear hl2
        go_wp2_with fail
        go_quiet ((go_at_call 67; exact quiet_more (HE.out _)))
        go_wp2_with fail
        go_roundw
        case rel => exact ⟨j1, _, by omega, rfl, rfl, fun i a b c => by
          rcases Nat.lt_or_ge i (j + 2) with h | h
          · obtain rfl : i = j1 := by have := HJ.out; omega
            rw [← HJ.out, Nat.add_sub_cancel, HX.out, HJ.out, HY.out]; exact HL.out
          · exact HI.out i a h c⟩
        case measure => simp [intOf]; omega
    · have hle : ¬ ((k : Int) - 1 > 0) := by omega
      go_wp2_with fail
      go_ret
      exact ⟨true, rfl, ⟨fun _ => fun i a b => HI.out i a (by omega) b, fun _ => rfl⟩, _, rfl⟩
/-- No one is before one ahead of it, whichever two. -/
def AllF (f : Nat → Int) (n : Nat) : Prop := ∀ i j, i < j → j < n → decide (f j < f i) = false
def AllS (f : Nat → ByteArray) (n : Nat) : Prop := ∀ i j, i < j → j < n → ltS (f j) (f i) = false
theorem allF_iff (f : Nat → Int) (n : Nat) : AllF f n ↔ AscF f n := by
  constructor
  · intro h i h1 h2
    have := h (i - 1) i (by omega) h2
    simp only [decide_eq_false_iff_not] at this
    omega
  · intro h i j h1 h2
    have := h.le (show i ≤ j by omega) h2
    exact decide_eq_false (by omega)
theorem allS_iff (f : Nat → ByteArray) (n : Nat) : AllS f n ↔ AscS f n :=
  ⟨fun h i h1 h2 => h (i - 1) i (by omega) h2, fun h i j h1 h2 => h.le (by omega) h2⟩

set_option maxHeartbeats 400000 in
theorem intsAreSorted (n c : Nat) (A : Option Addr) (f : Nat → Int) (w : World) (B : Nat) (hn : n ≤ 9223372036854775807) (hrd : Rd w B (Value.int .i64) A n f) :
    Calls Try.prog 55 #[.slice A n c] w (Tells (AscF f n) w) := by
  have HS := Lib.hid (slIsSortedI n c A f w B hn hrd); clear hrd
  go_enter Try.func55, Try.ntmps55
  go_wp2_with fail
  refine HS.out.mono ?_
  rintro e w' ⟨b, rfl, hb, q, rfl⟩
  have HB := Lib.hid hb; clear hb
  go_wp2_with fail
  go_ret
  exact ⟨b, rfl, HB.out, q, rfl⟩
set_option maxHeartbeats 400000 in
theorem implSortIsSortedInts (n c : Nat) (A : Option Addr) (f : Nat → Int) (w : World) (B : Nat) (hn : n ≤ 9223372036854775807) (hrd : Rd w B (Value.int .i64) A n f) :
    Calls Try.prog 35 #[.slice A n c] w (Tells (AscF f n) w) := by
  have HS := Lib.hid (intsAreSorted n c A f w B hn hrd); clear hrd
  go_enter Try.func35, Try.ntmps35
  go_wp2_with fail
  refine HS.out.mono ?_
  rintro e w' ⟨b, rfl, hb, q, rfl⟩
  have HB := Lib.hid hb; clear hb
  go_wp2_with fail
  go_ret
  exact ⟨b, rfl, HB.out, q, rfl⟩
set_option maxHeartbeats 400000 in
theorem stringsAreSorted (n c : Nat) (A : Option Addr) (f : Nat → ByteArray) (w : World) (B : Nat) (hn : n ≤ 9223372036854775807) (hrd : Rd w B Value.string A n f) :
    Calls Try.prog 57 #[.slice A n c] w (Tells (AscS f n) w) := by
  have HS := Lib.hid (slIsSortedS n c A f w B hn hrd); clear hrd
  go_enter Try.func57, Try.ntmps57
  go_wp2_with fail
  refine HS.out.mono ?_
  rintro e w' ⟨b, rfl, hb, q, rfl⟩
  have HB := Lib.hid hb; clear hb
  go_wp2_with fail
  go_ret
  exact ⟨b, rfl, HB.out, q, rfl⟩
set_option maxHeartbeats 400000 in
theorem implSortIsSortedStrings (n c : Nat) (A : Option Addr) (f : Nat → ByteArray) (w : World) (B : Nat) (hn : n ≤ 9223372036854775807) (hrd : Rd w B Value.string A n f) :
    Calls Try.prog 37 #[.slice A n c] w (Tells (AscS f n) w) := by
  have HS := Lib.hid (stringsAreSorted n c A f w B hn hrd); clear hrd
  go_enter Try.func37, Try.ntmps37
  go_wp2_with fail
  refine HS.out.mono ?_
  rintro e w' ⟨b, rfl, hb, q, rfl⟩
  have HB := Lib.hid hb; clear hb
  go_wp2_with fail
  go_ret
  exact ⟨b, rfl, HB.out, q, rfl⟩
set_option maxHeartbeats 400000 in
theorem implIsSortedStrings (n c : Nat) (A : Option Addr) (f : Nat → ByteArray) (w : World) (B : Nat) (hn : n ≤ 9223372036854775807) (hrd : Rd w B Value.string A n f) :
    Calls Try.prog 36 #[.slice A n c] w (Tells (AscS f n) w) := by
  have HS := Lib.hid (slIsSortedS n c A f w B hn hrd); clear hrd
  go_enter Try.func36, Try.ntmps36
  go_wp2_with fail
  refine HS.out.mono ?_
  rintro e w' ⟨b, rfl, hb, q, rfl⟩
  have HB := Lib.hid hb; clear hb
  go_wp2_with fail
  go_ret
  exact ⟨b, rfl, HB.out, q, rfl⟩
end Go.Proofs.Ytjddpbamnjdjcaa
