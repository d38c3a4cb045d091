/-
  The walk of the law FnExactSortIsSortedItems.
-/
import Derived.Test.YtkalmcpejmljgaaIsI
import Derived.Test.YtkalmcpejmljgaaItmS
namespace Go.Proofs.Ytkalmcpejmljgaa
open Go.RowKit Go.Proofs
set_option linter.unusedVariables false

theorem bool_of_iffI {a b : Bool} {p q : Prop} (ha : a = true ↔ p) (hb : b = true ↔ q) (h : p ↔ q) : a = b := by
  rw [Bool.eq_iff_iff, ha, hb]; exact h

theorem rdI_new {w : World} {g n : Nat} {t : TypeId} {f : Nat → Int × Int} (h : w.rowIs g t (n * 2) (cellI f)) : RdI w w.heap.size (some ⟨g, 0, none⟩) n f :=
  rdI_of_row h (Nat.le_refl _) fun i hi => ⟨cellI_even f i, cellI_odd f i⟩

set_option maxHeartbeats 400000 in
theorem specSortIsSortedItems (n c : Nat) (A : Option Addr) (f : Nat → Int × Int) (w : World) (B : Nat) (hn : n ≤ 4611686018427387903) (hrd : RdI w B A n f) :
    Calls Try.prog 17 #[.slice A n c] w (Tells (AllK f n) w) := by
  have HS := Lib.hid (specIsSortedItems n c A f w B hn hrd); clear hrd
  go_enter Try.func17, Try.ntmps17
  go_wp2_with fail
  refine HS.out.mono ?_
  rintro e w2 ⟨b1, rfl, hq1, q1, rfl⟩
  have HQ1 := Lib.hid hq1; clear hq1
  go_wp2_with fail
  go_ret
  exact ⟨b1, rfl, HQ1.out, q1, rfl⟩

set_option maxHeartbeats 2000000 in
theorem fnExactSortIsSortedItemsw (w : World) (A : Option Addr) (n c : Nat) (f : Nat → Int × Int) (hf64 : ∀ i, I64 (f i).1 ∧ I64 (f i).2) (hl : n ≤ c) (hre : c * 16 ≤ 140737488351232) (hrd : RdI w w.heap.size A n f) :
    Calls Try.prog 5 #[.slice A n c] w fun e w' => e = .returned (.bool true) ∧ Below w.heap.size w w' := by
  have hn8 : n * 16 ≤ 140737488351232 := by omega
  have HT := Lib.hid (fun w' (hb : Below w.heap.size w w') => toItemS n c A f w' w.heap.size hb.size (by omega) (hrd.keep hb (Nat.le_refl _)))
  have HZ := Lib.hid (szItemS n c A w (by omega))
  clear hrd hf64 hre hl
  by_cases hbig : 1048576 < n
  · rw [if_neg (by omega)] at HZ
    clear HT
    go_enter Try.func5, Try.ntmps5
    go_wp2_with fail
    refine HZ.out.mono ?_
    rintro e w1 ⟨rfl, rfl⟩
    go_wp2_with fail
    go_ret
    exact ⟨rfl, Below.refl _ _⟩
  · rw [if_pos (by omega)] at HZ
    have hbz : ¬ (1048576 - (n : Int) < 0) := by omega
    go_enter Try.func5, Try.ntmps5
    go_wp2_with fail
    refine HZ.out.mono ?_
    rintro e w1 ⟨rfl, rfl⟩
    clear HZ
    go_wp2_with fail
    refine (HT.out w1 (Below.refl _ _)).mono ?_
    rintro e w1' ⟨g1, rfl, hg1, hr1, hb1⟩
    have HS := Lib.hid (specSortIsSortedItems n n (some ⟨g1, 0, none⟩) f w1' w1'.heap.size (by omega) (rdI_new hr1))
    have HB1 := Lib.hid hb1; clear hr1 hb1
    go_wp2_with fail
    refine HS.out.mono ?_
    rintro e w2 ⟨b1, rfl, hq1, q1, rfl⟩
    have HQ1 := Lib.hid hq1; clear hq1
    have HB2 := Lib.hid (below_drewN HB1.out q1)
    go_wp2_with fail
    refine (HT.out _ HB2.out).mono ?_
    rintro e w3 ⟨g3, rfl, hg3, hr3, hb3⟩
    have HS3 := Lib.hid (implSortIsSortedItems n n (some ⟨g3, 0, none⟩) f w3 w3.heap.size (by omega) (rdI_new hr3))
    have HR3 := Lib.hid (rdI_new hr3)
    have HB3 := Lib.hid (HB2.out.trans (hb3.mono HB2.out.size)); clear hr3 hb3
    go_wp2_with fail
    refine HS3.out.mono ?_
    rintro e w4 ⟨b2, rfl, hq2, q2, rfl⟩
    obtain rfl : b1 = b2 := bool_of_iffI HQ1.out hq2 (allK_iff f n)
    have HB4 := Lib.hid (below_drewN HB3.out q2)
    have hne : (b1 != b1) = false := by simp
    clear hq2
    go_wp2_with fail
    refine (HT.out _ HB4.out).mono ?_
    rintro e w5 ⟨g5, rfl, hg5, hr5, hb5⟩
    have HE := Lib.hid (eqItemS n n n n (some ⟨g3, 0, none⟩) (some ⟨g5, 0, none⟩) f f w5 (by omega) (by omega) (((HR3.out.drewN q2).keep hb5 (Nat.le_refl _)).more hb5.size) (rdI_new hr5))
    have HB5 := Lib.hid (HB4.out.trans (hb5.mono HB4.out.size)); clear hr5 hb5
    go_wp2_with fail
    refine HE.out.mono ?_
    rintro e w6 ⟨b3, rfl, hq3, hb6⟩
    obtain rfl : b3 = true := hq3.2 ⟨rfl, fun _ _ => rfl⟩
    have HB6 := Lib.hid (HB5.out.trans (hb6.mono HB5.out.size))
    clear hq3 hb6
    go_wp2_with fail
    go_ret
    exact ⟨rfl, HB6.out⟩
end Go.Proofs.Ytkalmcpejmljgaa
