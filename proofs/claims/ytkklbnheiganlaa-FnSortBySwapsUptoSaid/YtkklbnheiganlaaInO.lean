/-
  The walk of inOrder.
-/
import Derived.Test.YtkklbnheiganlaaWeak
namespace Go.Proofs.Ytkklbnheiganlaa
open Go.RowKit Go.Proofs
set_option linter.unusedVariables false

/-- No number comes before one ahead of it. -/
def InOrd (r : Int → Int → Bool) (f : Nat → Int) (n : Nat) : Prop := ∀ i j, i < j → j < n → r (f j) (f i) = false

set_option maxRecDepth 100000 in
set_option maxHeartbeats 2000000 in
theorem inOrder (sz : Int) (A : Option Addr) (m c B : Nat) (g : Nat → Bool) (A' : Option Addr) (n c' B' : Nat) (f : Nat → Int) (w : World) (hsz : I64 sz) (hm : m ≤ 140737488351232) (hB : B ≤ w.heap.size) (hrd : Rd w B Value.bool A m g)
    (hf64 : ∀ i, I64 (f i)) (hn : n ≤ 4611686018427387903) (hB' : B' ≤ w.heap.size) (hrd' : Rd w B' (Value.int .i64) A' n f) :
    Calls Try.prog 26 #[.agg #[.int .i64 sz, .slice A m c], .slice A' n c'] w (TellsB (InOrd (relB sz m g) f n) w) := by
  have HC := Lib.hid (fun i j w' (v : Bool) (hv : relB sz m g (f i) (f j) = v) (hi : BoxInv w sz A m c w') => (comes sz (f i) (f j) A m c B g w' hsz (hf64 i) (hf64 j) hm (Nat.le_trans hB hi.bel.size) (hrd.keep hi.bel hB)).mono (R' := fun e w2 => e = .returned (.bool v) ∧ BoxInv w sz A m c w2) fun e w2 h => ⟨by rw [← hv]; exact h.1, hi.step h.2⟩)
  have HR := Lib.hid (fun w' (hbel : Below w.heap.size w w') => hrd'.keep hbel hB')
  clear hrd hrd' hB hB' hf64 hsz
  generalize relB sz m g = r at *
  have H0 := Lib.hid (BoxInv.first w sz A m c 33)
  go_enter Try.func26, Try.ntmps26
  go_wp2_with fail
  go_loopw [9] (fun vi wr => ∃ j : Nat, j ≤ n ∧ vi = .int .i64 j ∧ Hid (BoxInv w sz A m c wr ∧ InOrd r f j)) (fun vi _ => n - (intOf vi).toNat)
  case atStart => exact ⟨0, Nat.zero_le _, rfl, H0.out, fun i j h h' => absurd h' (Nat.not_lt_zero _)⟩
  case round =>
    clear H0
    obtain ⟨j, hj, rfl, HI⟩ := hrel
    by_cases hlt : j < n
    · go_wp2_with fail
      go_loopw [6] (fun vi wr => ∃ i : Nat, i ≤ j ∧ vi = .int .i64 i ∧ Hid (BoxInv w sz A m c wr ∧ ∀ i', i' < i → r (f j) (f i') = false)) (fun vi _ => j - (intOf vi).toNat)
      case atStart => exact ⟨0, Nat.zero_le _, rfl, HI.out.1, fun i' h' => absurd h' (Nat.not_lt_zero _)⟩
      case round =>
        obtain ⟨i, hi, rfl, HK⟩ := hrel
        by_cases hij : i < j
        · obtain ⟨b, off, rfl, _, hc⟩ := (HR.out _ HK.out.1.bel).at hlt
          obtain ⟨b2, off2, hA2, _, hc2⟩ := (HR.out _ HK.out.1.bel).at (show i < n by omega)
          simp only [Option.some.injEq, Addr.mk.injEq, and_true] at hA2
          obtain ⟨rfl, rfl⟩ := hA2
          have p0 := HK.out.1.c0
          have p1 := HK.out.1.c1
          have hjl : (j : Int) < (n : Int) := by omega
          have hil : (i : Int) < (n : Int) := by omega
          cases hv : r (f j) (f i)
          · have HV := Lib.hid hv; clear hv
            go_wp2_with fail
            go_still_tail 9, (by kernel_rfl)
            change wpList _ _ _ _ _ (_root_.Go.World.drewN _ 1)
            go_wp2_with fail
            refine (HC.out j i _ false HV.out (HK.out.1.drewN 1)).mono ?_
            rintro e w1 ⟨rfl, hi1⟩
            have H1 := Lib.hid hi1
            clear hi1 p0 p1 hc hc2
            go_wp2_with fail
            go_roundw
            case rel => exact ⟨i + 1, hij, by go_num, H1.out, fun i' hi' => by
              rcases Nat.lt_succ_iff_lt_or_eq.1 hi' with h | h
              · exact HK.out.2 i' h
              · subst h; exact HV.out⟩
            case measure => simp [intOf]; omega
          · have HV := Lib.hid hv; clear hv
            go_wp2_with fail
            go_still_tail 9, (by kernel_rfl)
            change wpList _ _ _ _ _ (_root_.Go.World.drewN _ 1)
            go_wp2_with fail
            refine (HC.out j i _ true HV.out (HK.out.1.drewN 1)).mono ?_
            rintro e w1 ⟨rfl, hi1⟩
            have H1 := Lib.hid hi1
            clear hi1 p0 p1 hc hc2
            go_wp2_with fail
            go_ret
            exact ⟨false, rfl, ⟨(fun h => by cases h), (fun h => by have := h i j hij hlt; rw [HV.out] at this; cases this)⟩, H1.out.bel⟩
        · go_wp2_with fail
          go_roundw
          case rel => exact ⟨j + 1, hlt, by go_num, HK.out.1, fun a b h1 h2 => by
            rcases Nat.lt_succ_iff_lt_or_eq.1 h2 with h | h
            · exact HI.out.2 a b h1 h
            · subst h; exact HK.out.2 a (by omega)⟩
          case measure => simp [intOf]; omega
    · go_wp2_with fail
      go_ret
      exact ⟨true, rfl, ⟨fun _ => fun a b h1 h2 => HI.out.2 a b h1 (by omega), fun _ => rfl⟩, HI.out.1.bel⟩
end Go.Proofs.Ytkklbnheiganlaa
