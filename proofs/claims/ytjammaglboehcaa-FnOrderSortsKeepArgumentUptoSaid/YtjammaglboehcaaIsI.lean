/-
  The walks of sort.IsSorted at the interface, of the methods of keyed, of impl's and the reference's functions on sorted items, and of the law FnExactSortIsSortedItems.
-/
import Derived.Test.YtjammaglboehcaaProg
import Derived.Test.YtjammaglboehcaaItm
import Derived.Test.YtjammaglboehcaaAsc
namespace Go.Proofs.Ytjammaglboehcaa
open Go.RowKit Go.Proofs
set_option linter.unusedVariables false


/-- A call that tells whether p, and keeps R. -/
def TellsR (p : Prop) (R : World → Prop) (e : Ending) (w' : World) : Prop := ∃ b : Bool, e = .returned (.bool b) ∧ (b = true ↔ p) ∧ R w'

set_option maxHeartbeats 1000000 in
theorem sortIsSorted (T : TypeId) (rv : Value) (gn gl n : Nat) (lt : Nat → Nat → Bool) (R : World → Prop) (w : World) (hn : n ≤ 9223372036854775807)
    (mN : ∀ w, (method 266 T rv "Len").run Try.prog w = .ok (gn, rv) w) (mL : ∀ w, (method 266 T rv "Less").run Try.prog w = .ok (gl, rv) w)
    (eN : ∀ args w, (callFunc gn args).run Try.prog w = .ok (.enter gn args) w) (eL : ∀ args w, (callFunc gl args).run Try.prog w = .ok (.enter gl args) w)
    (hN : ∀ w, R w → Calls Try.prog gn #[rv] w fun e w' => e = .returned (.int .i64 n) ∧ R w')
    (hL : ∀ w i j, i < n → j < n → R w → Calls Try.prog gl #[rv, .int .i64 (i : Nat), .int .i64 (j : Nat)] w fun e w' => e = .returned (.bool (lt i j)) ∧ R w') (h0 : R w) :
    Calls Try.prog 53 #[.iface T rv] w (TellsR (∀ i, 1 ≤ i → i < n → lt i (i - 1) = false) R) := by
  have H0 := Lib.hid h0; have HN := Lib.hid hN; have HL := Lib.hid hL; clear h0 hN hL
  go_enter Try.func53, Try.ntmps53
  go_wp2_with fail
  refine (HN.out w H0.out).mono ?_
  rintro e w1 ⟨rfl, hR1⟩
  have HR1 := Lib.hid hR1; clear hR1 H0 HN
  go_wp2_with fail
  go_loopw [4] (fun vi wr => ∃ k : Nat, k ≤ n ∧ vi = .int .i64 ((k : Int) - 1) ∧ Hid (R wr ∧ ∀ i, 1 ≤ i → k ≤ i → i < n → lt i (i - 1) = false)) (fun vi _ => (intOf vi).toNat)
  case atStart => exact ⟨n, Nat.le_refl _, rfl, HR1.out, fun i h1 h2 h3 => absurd h3 (by omega)⟩
  case round =>
    obtain ⟨k, hk, rfl, HI⟩ := hrel
    by_cases hlt : 2 ≤ k
    · obtain ⟨j, rfl⟩ : ∃ j, k = j + 2 := ⟨k - 2, by omega⟩
      rw [show ((j + 2 : Nat) : Int) - 1 = ((j + 1 : Nat) : Int) by omega]
      have hc := HL.out wr (j + 1) j (by omega) (by omega) HI.out.1
      rw [show ((j : Nat) : Int) = ((j + 1 : Nat) : Int) - 1 by omega] at hc
      have hpos : ((j + 1 : Nat) : Int) > 0 := by omega
      have hj1n : j + 1 < n := by omega
      have hj10 : 1 ≤ j + 1 := by omega
      generalize hj1 : j + 1 = j1 at *
      have HJ := Lib.hid hj1; clear hj1
      cases hl2 : lt j1 j
      · rw [hl2] at hc
        have HC := Lib.hid hc; have HV := Lib.hid hl2; clear hc hl2
        go_wp2_with fail
        refine HC.out.mono ?_
        rintro e w2 ⟨rfl, hR2⟩
        have HR2 := Lib.hid hR2; clear hR2
        go_wp2_with fail
        go_roundw
        case rel => exact ⟨j1, by omega, rfl, HR2.out, fun i a b c => by
          rcases Nat.lt_or_ge i (j + 2) with h | h
          · obtain rfl : i = j1 := by have := HJ.out; omega
            rw [show i - 1 = j by have := HJ.out; omega]; exact HV.out
          · exact HI.out.2 i a h c⟩
        case measure => simp [intOf]; omega
      · rw [hl2] at hc
        have HC := Lib.hid hc; have HV := Lib.hid hl2; clear hc hl2
        go_wp2_with fail
        refine HC.out.mono ?_
        rintro e w2 ⟨rfl, hR2⟩
        have HR2 := Lib.hid hR2; clear hR2
        go_wp2_with fail
        go_ret
        exact ⟨false, rfl, ⟨(fun h => by cases h), (fun h => by
          have := h j1 (by have := HJ.out; omega) (by omega)
          rw [show j1 - 1 = j by have := HJ.out; omega, HV.out] at this; cases this)⟩, HR2.out⟩
    · have hle : ¬ ((k : Int) - 1 > 0) := by omega
      go_wp2_with fail
      go_ret
      exact ⟨true, rfl, ⟨fun _ => fun i a b => HI.out.2 i a (by omega) b, fun _ => rfl⟩, HI.out.1⟩

/-! ### keyed: items by their keys -/
set_option maxHeartbeats 400000 in
theorem keyedLen (A : Option Addr) (n c : Nat) (w : World) : Calls Try.prog 165 #[.slice A n c] w fun e w' => e = .returned (.int .i64 n) ∧ ∃ q, w' = w.drewN q := by
  go_enter Try.func165, Try.ntmps165
  go_wp2
  go_ret
  exact ⟨rfl, 0, rfl⟩

set_option maxHeartbeats 1000000 in
theorem keyedLess (A : Option Addr) (n c i j B : Nat) (f : Nat → Int × Int) (w : World) (hn : n ≤ 4611686018427387903) (hi : i < n) (hj : j < n) (hrd : RdI w B A n f) :
    Calls Try.prog 166 #[.slice A n c, .int .i64 i, .int .i64 j] w fun e w' => e = .returned (.bool (decide ((f i).1 < (f j).1))) ∧ ∃ q, w' = w.drewN q := by
  obtain ⟨b, off, rfl, _, hc, _⟩ := hrd.at hi
  obtain ⟨b', off', h', _, hc', _⟩ := hrd.at hj
  simp only [Option.some.injEq, Addr.mk.injEq, and_true] at h'
  obtain ⟨rfl, rfl⟩ := h'
  clear hrd
  generalize (f i).1 = x at hc ⊢
  generalize (f j).1 = y at hc' ⊢
  have hiz : (i : Int) < (n : Int) := by omega
  have hjz : (j : Int) < (n : Int) := by omega
  go_enter Try.func166, Try.ntmps166
  go_wp2
  go_quiet (fail)
  go_wp2
  go_ret
  exact ⟨rfl, _, rfl⟩

theorem keyed_len (A : Option Addr) (n c : Nat) (w : World) : (method 266 50 (.slice A n c) "Len").run Try.prog w = .ok (165, .slice A n c) w := by kernel_rfl
theorem keyed_less (A : Option Addr) (n c : Nat) (w : World) : (method 266 50 (.slice A n c) "Less").run Try.prog w = .ok (166, .slice A n c) w := by kernel_rfl
theorem keyed_en : ∀ args w, (callFunc 165 args).run Try.prog w = .ok (.enter 165 args) w := enters_of Try.func165 (by kernel_rfl) rfl
theorem keyed_el : ∀ args w, (callFunc 166 args).run Try.prog w = .ok (.enter 166 args) w := enters_of Try.func166 (by kernel_rfl) rfl

def AscK (f : Nat → Int × Int) (n : Nat) : Prop := ∀ i, 1 ≤ i → i < n → decide ((f i).1 < (f (i - 1)).1) = false

set_option maxHeartbeats 1000000 in
theorem implSortIsSortedItems (n c : Nat) (A : Option Addr) (f : Nat → Int × Int) (w : World) (B : Nat) (hn : n ≤ 4611686018427387903) (hrd : RdI w B A n f) :
    Calls Try.prog 27 #[.slice A n c] w (Tells (AscK f n) w) := by
  have hS := sortIsSorted 50 (.slice A n c) 165 166 n (fun i j => decide ((f i).1 < (f j).1)) (fun w' => ∃ q, w' = w.drewN q) w (by omega)
    (keyed_len A n c) (keyed_less A n c) keyed_en keyed_el
    (fun w' hw => by obtain ⟨q, rfl⟩ := hw; exact (keyedLen A n c _).mono fun _ _ ⟨he, q2, hq⟩ => ⟨he, q + q2, by rw [hq, World.drewN_drewN]⟩)
    (fun w' i j hi hj hw => by obtain ⟨q, rfl⟩ := hw; exact (keyedLess A n c i j B f _ hn hi hj (hrd.drewN q)).mono fun _ _ ⟨he, q2, hq⟩ => ⟨he, q + q2, by rw [hq, World.drewN_drewN]⟩) ⟨0, rfl⟩
  have HS := Lib.hid hS; clear hS hrd
  go_enter Try.func27, Try.ntmps27
  go_wp2_with fail
  refine HS.out.mono ?_
  rintro e w' ⟨b, rfl, hb, q, rfl⟩
  have HB := Lib.hid hb; clear hb
  go_wp2_with fail
  go_ret
  exact ⟨b, rfl, HB.out, q, rfl⟩

theorem allK_iff (f : Nat → Int × Int) (n : Nat) : (∀ i j, i < j → j < n → decide ((f j).1 < (f i).1) = false) ↔ AscK f n := by
  constructor
  · intro h i h1 h2; exact h (i - 1) i (by omega) h2
  · intro h i j h1 h2
    have hA : AscF (fun k => (f k).1) n := fun k a b => by have := h k a b; simp only [decide_eq_false_iff_not] at this; dsimp only; omega
    have := hA.le (show i ≤ j by omega) h2
    exact decide_eq_false (by omega)
end Go.Proofs.Ytjammaglboehcaa
