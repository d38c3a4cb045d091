/-
  The walks of the laws FnSliceStableKeepsEqual and FnStableSortsAgree.
-/
import Derived.Test.YtkblfcdofgahhaaStL3
import Derived.Test.YtkblfcdofgahhaaStSl2
import Derived.Test.YtkblfcdofgahhaaStV
namespace Go.Proofs.Ytkblfcdofgahhaa
open Go.RowKit Go.Proofs
set_option linter.unusedVariables false

set_option maxRecDepth 100000 in
set_option maxHeartbeats 4000000 in
theorem fnSliceStableKeepsEqualw (w : World) (A : Option Addr) (n c : Nat) (f : Nat → Int) (hf64 : ∀ i, I64 (f i)) (hl : n ≤ c) (hre : c * 8 ≤ 140737488351232) (hrd : Rd w w.heap.size (Value.int .i64) A n f) (hup : c ≤ 1048575) :
    Calls Try.prog 11 #[.slice A n c] w fun e w' => e = .returned (.bool true) ∧ Below w.heap.size w w' := by
  have hn : n * 16 ≤ 140737488351232 := by omega
  have hnn : n ≤ 1048575 := by omega
  have hne : ((n : Int) != (n : Int)) = false := by simp
  have HT := Lib.hid (numbered A n c w.heap.size f w hn (Nat.le_refl _) hrd)
  have hO := stable_ord (keyT_swo fun i => (f i, (i : Int))) n
  have HI := Lib.hid (fun w1 A1 c1 hr => implSliceStableItems A1 n c1 w1.heap.size (fun i => (f i, (i : Int))) w1 hn hr)
  have HO := Lib.hid hO
  clear hrd hf64 hre hl hup hO
  generalize stable (tabM (keyT fun i => (f i, (i : Int)))) n (fun k => k) = p at *
  go_enter Try.func11, Try.ntmps11
  go_wp2_with fail
  refine HT.out.mono ?_
  rintro e w1 ⟨A1, c1, rfl, hr1, hb1⟩
  have HC := Lib.hid (HI.out w1 A1 c1 hr1)
  have HB1 := Lib.hid hb1
  clear hr1 hb1
  go_wp2_with fail
  refine HC.out.mono ?_
  intro e w3 h3
  obtain ⟨A3, c3, rfl, hr3, hb3⟩ := h3.rd
  have HB3 := Lib.hid (HB1.out.trans (hb3.mono HB1.out.size))
  have HR3 := Lib.hid hr3
  clear hr3 hb3 h3
  go_wp2_with fail
  go_loopw [4] (fun vi wr => ∃ k q : Nat, 1 ≤ k ∧ (k ≤ n ∨ k = 1) ∧ vi = .int .i64 k ∧ wr = w3.drewN q) (fun vi _ => n - (intOf vi).toNat)
  case atStart => exact ⟨1, 0, by omega, .inr rfl, rfl, rfl⟩
  case round =>
    obtain ⟨k, q, hk, hk2, rfl, rfl⟩ := hrel
    by_cases hlt : k < n
    · obtain ⟨b, off, rfl, _, hc, hd⟩ := HR3.out.at (show k - 1 < n by omega)
      obtain ⟨b', off', h', _, hc', hd'⟩ := HR3.out.at hlt
      simp only [Option.some.injEq, Addr.mk.injEq, and_true] at h'
      obtain ⟨rfl, rfl⟩ := h'
      have hz : (0 : Int) ≤ (k : Int) - 1 := by omega
      have hzl : (k : Int) - 1 < (n : Int) := by omega
      have hkl : (k : Int) < (n : Int) := by omega
      have hkn : ((k : Int) - 1).toNat = k - 1 := by omega
      have hwr : IntKind.i64.wrap ((k : Int) - 1) = (k : Int) - 1 := IntWalk.i64_in _ (by omega)
      have hbf : f (p (k - 1)) < f (p k) ∨ f (p (k - 1)) ≤ f (p k) ∧ ((p (k - 1) : Nat) : Int) < (p k : Nat) := by
        rcases HO.out (k - 1) k (Nat.zero_le _) (by omega) hlt with h | ⟨h1, h2⟩
        · unfold keyT at h; simp at h; omega
        · unfold keyT at h1; simp at h1; omega
      dsimp only at hc hd hc' hd'
      generalize f (p (k - 1)) = x1 at *
      generalize f (p k) = y1 at *
      generalize ((p (k - 1) : Nat) : Int) = x2 at *
      generalize ((p k : Nat) : Int) = y2 at *
      have d1 : decide (y1 < x1) = false := by simp; omega
      by_cases he : y1 = x1
      · subst he
        have d2 : (y1 == y1) = true := by simp
        have d3 : decide (y2 ≤ x2) = false := by simp; omega
        clear hbf
        go_wp2_with fail
        go_quiet (fail)
        go_wp2_with fail
        go_roundw
        case rel => exact ⟨k + 1, _, by omega, .inl hlt, by go_num, rfl⟩
        case measure => simp [intOf]; omega
      · have d2 : (y1 == x1) = false := by simpa using he
        clear hbf he
        go_wp2_with fail
        go_quiet (fail)
        go_wp2_with fail
        go_roundw
        case rel => exact ⟨k + 1, _, by omega, .inl hlt, by go_num, rfl⟩
        case measure => simp [intOf]; omega
    · go_wp2_with fail
      go_ret
      exact ⟨rfl, below_drewN HB3.out q⟩

set_option maxHeartbeats 2000000 in
theorem fnStableSortsAgreew (w : World) (A : Option Addr) (n c : Nat) (f : Nat → Int × Int) (hf64 : ∀ i, I64 (f i).1 ∧ I64 (f i).2) (hl : n ≤ c) (hre : c * 16 ≤ 140737488351232) (hrd : RdI w w.heap.size A n f) :
    Calls Try.prog 14 #[.slice A n c] w fun e w' => e = .returned (.bool true) ∧ Below w.heap.size w w' := by
  have hn : n * 16 ≤ 140737488351232 := by omega
  have hnn : n ≤ 4611686018427387903 := by omega
  have hee : ((n : Int) == (n : Int)) = true := by simp
  have HT := Lib.hid (toItems A n c w.heap.size f w hn (Nat.le_refl _) hrd)
  have HI := Lib.hid (fun w' A1 c1 B (hr : RdI w' B A1 n f) => implStableItems A1 n c1 B f w' hn hr)
  have HJ := Lib.hid (fun w' A1 c1 B (hr : RdI w' B A1 n f) => implSortStableItems A1 n c1 B f w' hn hr)
  have HK := Lib.hid (fun w' A1 c1 B (hr : RdI w' B A1 n f) => implSliceStableItems A1 n c1 B f w' hn hr)
  clear hrd hf64 hre hl
  generalize stable (tabM (keyT f)) n (fun k => k) = p at *
  go_enter Try.func14, Try.ntmps14
  go_wp2_with fail
  refine HT.out.mono ?_
  rintro e w1 ⟨A1, c1, rfl, hr1, hb1⟩
  have HR1 := Lib.hid hr1; have HB1 := Lib.hid hb1
  clear hr1 hb1
  go_wp2_with fail
  refine (HI.out _ A1 c1 _ HR1.out).mono ?_
  intro e w2 h2
  obtain ⟨A2, c2, rfl, hr2, hb2⟩ := h2.rd
  have HR2 := Lib.hid hr2
  have HQ2 := Lib.hid (HR1.out.keep hb2 (Nat.le_refl _))
  have HB2 := Lib.hid (HB1.out.trans (hb2.mono HB1.out.size))
  have HS2 := Lib.hid hb2.size
  clear hr2 hb2 h2
  go_wp2_with fail
  refine (HJ.out _ A1 c1 _ HQ2.out).mono ?_
  intro e w3 h3
  obtain ⟨A3, c3, rfl, hr3, hb3⟩ := h3.rd
  have HE3 := Lib.hid (sameItems n n c2 c3 A2 A3 _ _ w3 _ _ hnn hnn (HR2.out.keep hb3 (Nat.le_refl _)) hr3)
  have HR3 := Lib.hid (HR2.out.keep hb3 (Nat.le_refl _))
  have HQ3 := Lib.hid (HQ2.out.keep hb3 HS2.out)
  have HB3 := Lib.hid (HB2.out.trans (hb3.mono HB2.out.size))
  have HS3 := Lib.hid hb3.size
  clear hr3 hb3 h3
  go_wp2_with fail
  refine HE3.out.mono ?_
  rintro e w4 ⟨b4, rfl, hb4, q4, rfl⟩
  obtain rfl : b4 = true := hb4.2 ⟨rfl, fun _ _ => rfl⟩
  clear hb4
  go_wp2_with fail
  refine (HK.out _ A1 c1 _ (HQ3.out.drewN q4)).mono ?_
  intro e w5 h5
  obtain ⟨A5, c5, rfl, hr5, hb5⟩ := h5.rd
  have HE5 := Lib.hid (sameItems n n c2 c5 A2 A5 _ _ w5 _ _ hnn hnn ((HR3.out.drewN q4).keep hb5 HS3.out) hr5)
  have HB5 := Lib.hid ((below_drewN HB3.out q4).trans (hb5.mono HB3.out.size))
  clear hr5 hb5 h5
  go_wp2_with fail
  refine HE5.out.mono ?_
  rintro e w6 ⟨b6, rfl, hb6, q6, rfl⟩
  obtain rfl : b6 = true := hb6.2 ⟨rfl, fun _ _ => rfl⟩
  clear hb6
  go_wp2_with fail
  go_ret
  exact ⟨rfl, below_drewN HB5.out q6⟩
end Go.Proofs.Ytkblfcdofgahhaa
