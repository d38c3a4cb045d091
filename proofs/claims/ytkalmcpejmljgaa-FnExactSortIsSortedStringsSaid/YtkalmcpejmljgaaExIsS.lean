/-
  The walks of the laws FnExactSortIsSortedInts and FnExactSortIsSortedStrings.
-/
import Derived.Test.YtkalmcpejmljgaaIsS
import Derived.Test.YtkalmcpejmljgaaIntS
import Derived.Test.YtkalmcpejmljgaaStrS
namespace Go.Proofs.Ytkalmcpejmljgaa
open Go.RowKit Go.Proofs
set_option linter.unusedVariables false

theorem bool_of_iff {a b : Bool} {p q : Prop} (ha : a = true ↔ p) (hb : b = true ↔ q) (h : p ↔ q) : a = b := by
  rw [Bool.eq_iff_iff, ha, hb]; exact h

theorem rd_of_row {α : Type} {w : World} {g n : Nat} {t : TypeId} {enc : α → Value} {f : Nat → α} (h : w.rowIs g t n (fun i => enc (f i))) : Rd w w.heap.size enc (some ⟨g, 0, none⟩) n f :=
  fun _ => ⟨g, 0, rfl, h.lt, fun i hi => by rw [Nat.zero_add]; exact h.cell hi⟩

set_option maxHeartbeats 2000000 in
theorem fnExactSortIsSortedIntsw (w : World) (A : Option Addr) (n c : Nat) (f : Nat → Int) (hf64 : ∀ i, I64 (f i)) (hl : n ≤ c) (hre : c * 8 ≤ 140737488351232) (hrd : Rd w w.heap.size (Value.int .i64) A n f) :
    Calls Try.prog 3 #[.slice A n c] w fun e w' => e = .returned (.bool true) ∧ Below w.heap.size w w' := by
  have hn8 : n * 8 ≤ 140737488351232 := by omega
  have HT := Lib.hid (fun w' (hb : Below w.heap.size w w') => toIntS n c A f w' w.heap.size hb.size (by omega) (hrd.keep hb (Nat.le_refl _)))
  clear hrd hf64 hre hl
  by_cases hbig : 1048576 < n
  · have hbz : (n : Int) > 1048576 := by omega
    clear HT
    go_enter Try.func3, Try.ntmps3
    go_wp2_with fail
    go_ret
    exact ⟨rfl, Below.refl _ _⟩
  · have hbz : ¬ ((n : Int) > 1048576) := by omega
    go_enter Try.func3, Try.ntmps3
    go_wp2_with fail
    refine (HT.out w (Below.refl _ _)).mono ?_
    rintro e w1 ⟨g1, rfl, hg1, hr1, hb1⟩
    have HS := Lib.hid (specSortIsSortedInts n n (some ⟨g1, 0, none⟩) f w1 w1.heap.size (by omega) (rd_of_row hr1))
    have HB1 := Lib.hid hb1; clear hr1 hb1
    go_wp2_with fail
    refine HS.out.mono ?_
    rintro e w2 ⟨b1, rfl, hq1, q1, rfl⟩
    have HQ1 := Lib.hid hq1; clear hq1
    have HB2 := Lib.hid (below_drewN HB1.out q1)
    go_wp2_with fail
    refine (HT.out _ HB2.out).mono ?_
    rintro e w3 ⟨g3, rfl, hg3, hr3, hb3⟩
    have HS3 := Lib.hid (implSortIsSortedInts n n (some ⟨g3, 0, none⟩) f w3 w3.heap.size (by omega) (rd_of_row hr3))
    have HR3 := Lib.hid (rd_of_row hr3)
    have HB3 := Lib.hid (HB2.out.trans (hb3.mono HB2.out.size)); clear hr3 hb3
    go_wp2_with fail
    refine HS3.out.mono ?_
    rintro e w4 ⟨b2, rfl, hq2, q2, rfl⟩
    obtain rfl : b1 = b2 := bool_of_iff HQ1.out hq2 (allF_iff f n)
    have HB4 := Lib.hid (below_drewN HB3.out q2)
    have hne : (b1 != b1) = false := by simp
    clear hq2
    go_wp2_with fail
    refine (HT.out _ HB4.out).mono ?_
    rintro e w5 ⟨g5, rfl, hg5, hr5, hb5⟩
    have HE := Lib.hid (eqIntS n n n n (some ⟨g3, 0, none⟩) (some ⟨g5, 0, none⟩) f f w5 w3.heap.size w5.heap.size (by omega) (by omega) ((HR3.out.drewN q2).keep hb5 (Nat.le_refl _)) (rd_of_row hr5))
    have HB5 := Lib.hid (HB4.out.trans (hb5.mono HB4.out.size)); clear hr5 hb5
    go_wp2_with fail
    refine HE.out.mono ?_
    rintro e w6 ⟨b3, rfl, hq3, q3, rfl⟩
    obtain rfl : b3 = true := hq3.2 ⟨rfl, fun _ _ => rfl⟩
    clear hq3
    go_wp2_with fail
    go_ret
    exact ⟨rfl, below_drewN HB5.out q3⟩
set_option maxHeartbeats 2000000 in
theorem fnExactSortIsSortedStringsw (w : World) (A : Option Addr) (n c : Nat) (f : Nat → ByteArray) (hfs : ∀ i, (f i).size ≤ 9223372036854775807) (hl : n ≤ c) (hre : c * 16 ≤ 140737488351232) (hrd : Rd w w.heap.size Value.string A n f) :
    Calls Try.prog 4 #[.slice A n c] w fun e w' => e = .returned (.bool true) ∧ Below w.heap.size w w' := by
  have hn16 : n * 16 ≤ 140737488351232 := by omega
  have HT := Lib.hid (fun w' (hb : Below w.heap.size w w') => toStringS n c A f w' w.heap.size hb.size (by omega) (hrd.keep hb (Nat.le_refl _)))
  have H0 := Lib.hid (szStringS n c A f hfs w w.heap.size (by omega) hrd)
  have HFS := Lib.hid hfs
  clear hrd hfs hre hl
  go_enter Try.func4, Try.ntmps4
  go_wp2_with fail
  refine H0.out.mono ?_
  rintro e w' ⟨r, rfl, rfl⟩
  by_cases hneg : r < 0
  · clear HT H0
    go_wp2_with fail
    go_ret
    exact ⟨rfl, Below.refl _ _⟩
  · go_wp2_with fail
    refine (HT.out w (Below.refl _ _)).mono ?_
    rintro e w1 ⟨g1, rfl, hg1, hr1, hb1⟩
    have HS := Lib.hid (specSortIsSortedStrings n n (some ⟨g1, 0, none⟩) f HFS.out w1 w1.heap.size (by omega) (rd_of_row hr1))
    have HB1 := Lib.hid hb1; clear hr1 hb1
    go_wp2_with fail
    refine HS.out.mono ?_
    rintro e w2 ⟨b1, rfl, hq1, q1, rfl⟩
    have HQ1 := Lib.hid hq1; clear hq1
    have HB2 := Lib.hid (below_drewN HB1.out q1)
    go_wp2_with fail
    refine (HT.out _ HB2.out).mono ?_
    rintro e w3 ⟨g3, rfl, hg3, hr3, hb3⟩
    have HS3 := Lib.hid (implSortIsSortedStrings n n (some ⟨g3, 0, none⟩) f w3 w3.heap.size (by omega) (rd_of_row hr3))
    have HR3 := Lib.hid (rd_of_row hr3)
    have HB3 := Lib.hid (HB2.out.trans (hb3.mono HB2.out.size)); clear hr3 hb3
    go_wp2_with fail
    refine HS3.out.mono ?_
    rintro e w4 ⟨b2, rfl, hq2, q2, rfl⟩
    obtain rfl : b1 = b2 := bool_of_iff HQ1.out hq2 (allS_iff f n)
    have HB4 := Lib.hid (below_drewN HB3.out q2)
    have hne : (b1 != b1) = false := by simp
    clear hq2
    go_wp2_with fail
    refine (HT.out _ HB4.out).mono ?_
    rintro e w5 ⟨g5, rfl, hg5, hr5, hb5⟩
    have HE := Lib.hid (eqStringS n n n n (some ⟨g3, 0, none⟩) (some ⟨g5, 0, none⟩) f f w5 w3.heap.size w5.heap.size (by omega) (by omega) ((HR3.out.drewN q2).keep hb5 (Nat.le_refl _)) (rd_of_row hr5))
    have HB5 := Lib.hid (HB4.out.trans (hb5.mono HB4.out.size)); clear hr5 hb5
    go_wp2_with fail
    refine HE.out.mono ?_
    rintro e w6 ⟨b3, rfl, hq3, q3, rfl⟩
    obtain rfl : b3 = true := hq3.2 ⟨rfl, fun _ _ => rfl⟩
    clear hq3
    go_wp2_with fail
    go_ret
    exact ⟨rfl, below_drewN HB5.out q3⟩
end Go.Proofs.Ytkalmcpejmljgaa
