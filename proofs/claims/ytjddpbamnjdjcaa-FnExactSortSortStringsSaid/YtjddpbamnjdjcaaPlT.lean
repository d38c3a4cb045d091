/-
  The walks of the laws on sort.Strings and slices.Sort of strings.
-/
import Derived.Test.YtjddpbamnjdjcaaPlI2
import Derived.Test.YtjddpbamnjdjcaaSame
import Derived.Test.YtjddpbamnjdjcaaIsS
namespace Go.Proofs.Ytjddpbamnjdjcaa
open Go.RowKit Go.Proofs
set_option linter.unusedVariables false

set_option maxHeartbeats 1000000 in
theorem fnSortSortStringsSortsw (w : World) (A : Option Addr) (n c : Nat) (f : Nat → ByteArray) (hfs : ∀ i, (f i).size ≤ 9223372036854775807) (hl : n ≤ c) (hre : c * 16 ≤ 140737488351232) (hrd : Rd w w.heap.size Value.string A n f) :
    Calls Try.prog 7 #[.slice A n c] w fun e w' => e = .returned (.bool true) ∧ Below w.heap.size w w' := by
  have hn : n * 16 ≤ 140737488351232 := by omega
  have hnn : n ≤ 4611686018427387903 := by omega
  have HI := Lib.hid (implSortSortStrings A n c w.heap.size f w hn hrd)
  have HR := Lib.hid hrd
  have HFS := Lib.hid hfs
  clear hrd hfs hre hl
  go_enter Try.func7, Try.ntmps7
  go_wp2_with fail
  refine HI.out.mono ?_
  intro e w1 h1
  obtain ⟨A1, c1, rfl, hr1, hb1⟩ := h1.rd
  have HA := Lib.hid (ascendingTexts n c1 A1 _ (srtS_size HFS.out) w1 _ (by omega) hr1)
  have HN := Lib.hid (fun q => sameWordsB A A1 n c c1 w.heap.size w1.heap.size f (srtS f n) (w1.drewN q) hnn ((HR.out.keep hb1 (Nat.le_refl _)).drewN q) (hr1.drewN q) (fun x => (srtS_cnt f n x).symm))
  have HB1 := Lib.hid hb1
  clear hr1 hb1 h1
  go_wp2_with fail
  refine HA.out.mono ?_
  rintro e w2 ⟨b2, rfl, hb2, q2, rfl⟩
  obtain rfl : b2 = true := hb2.2 (srtS_asc f n)
  clear hb2
  go_wp2_with fail
  refine (HN.out q2).mono ?_
  rintro e w3 ⟨rfl, q3, rfl⟩
  go_wp2_with fail
  go_ret
  exact ⟨rfl, below_drewN HB1.out (q2 + q3)⟩

set_option maxHeartbeats 1000000 in
theorem fnTextSortsAgreew (w : World) (A : Option Addr) (n c : Nat) (f : Nat → ByteArray) (hfs : ∀ i, (f i).size ≤ 9223372036854775807) (hl : n ≤ c) (hre : c * 16 ≤ 140737488351232) (hrd : Rd w w.heap.size Value.string A n f) :
    Calls Try.prog 9 #[.slice A n c] w fun e w' => e = .returned (.bool true) ∧ Below w.heap.size w w' := by
  have hn : n * 16 ≤ 140737488351232 := by omega
  have hnn : n ≤ 4611686018427387903 := by omega
  have hee : ((n : Int) == (n : Int)) = true := by simp
  have HI := Lib.hid (implSortStrings A n c w.heap.size f w hn hrd)
  have HR := Lib.hid hrd
  clear hrd hfs hre hl
  go_enter Try.func9, Try.ntmps9
  go_wp2_with fail
  refine HI.out.mono ?_
  intro e w1 h1
  obtain ⟨A1, c1, rfl, hr1, hb1⟩ := h1.rd
  have HC := Lib.hid (implSortSortStrings A n c _ f w1 hn (HR.out.keep hb1 (Nat.le_refl _)))
  have HR1 := Lib.hid hr1
  have HB1 := Lib.hid hb1
  clear hr1 hb1 h1
  go_wp2_with fail
  refine HC.out.mono ?_
  intro e w2 h2
  obtain ⟨A2, c2, rfl, hr2, hb2⟩ := h2.rd
  have HE := Lib.hid (sameTexts n n c1 c2 A1 A2 _ _ w2 _ _ hnn hnn (HR1.out.keep hb2 (Nat.le_refl _)) hr2)
  have HB2 := Lib.hid (HB1.out.trans (hb2.mono HB1.out.size))
  clear hr2 hb2 h2
  go_wp2_with fail
  refine HE.out.mono ?_
  rintro e w3 ⟨b3, rfl, hb3, q3, rfl⟩
  obtain rfl : b3 = true := hb3.2 ⟨rfl, fun _ _ => rfl⟩
  clear hb3
  go_wp2_with fail
  go_ret
  exact ⟨rfl, below_drewN HB2.out q3⟩

set_option maxHeartbeats 2000000 in
theorem fnIsSortedStringsw (w : World) (A : Option Addr) (n c : Nat) (f : Nat → ByteArray) (hfs : ∀ i, (f i).size ≤ 9223372036854775807) (hl : n ≤ c) (hre : c * 16 ≤ 140737488351232) (hrd : Rd w w.heap.size Value.string A n f) :
    Calls Try.prog 11 #[.slice A n c] w fun e w' => e = .returned (.bool true) ∧ Below w.heap.size w w' := by
  have hn : n * 16 ≤ 140737488351232 := by omega
  have hnn : n ≤ 4611686018427387903 := by omega
  have HI := Lib.hid (fun w' (hb : Below w.heap.size w w') => implSortStrings A n c w.heap.size f w' hn (hrd.keep hb (Nat.le_refl _)))
  have HJ := Lib.hid (fun w' (hb : Below w.heap.size w w') => implSortSortStrings A n c w.heap.size f w' hn (hrd.keep hb (Nat.le_refl _)))
  have HS := Lib.hid (fun w' (hb : Below w.heap.size w w') => implIsSortedStrings n c A f w' w.heap.size (by omega) (hrd.keep hb (Nat.le_refl _)))
  have HT := Lib.hid (fun w' (hb : Below w.heap.size w w') => implSortIsSortedStrings n c A f w' w.heap.size (by omega) (hrd.keep hb (Nat.le_refl _)))
  have HR := Lib.hid hrd
  clear hrd hfs hre hl
  go_enter Try.func11, Try.ntmps11
  go_wp2_with fail
  refine (HI.out _ (Below.refl _ _)).mono ?_
  intro e w2 h2
  obtain ⟨A2, c2, rfl, hr2, hb2⟩ := h2.rd
  have HB2 := Lib.hid hb2
  have HE := Lib.hid (sameTexts n n c2 c A2 A _ f w2 _ _ hnn hnn hr2 (HR.out.keep HB2.out (Nat.le_refl _)))
  clear hr2 hb2 h2
  go_wp2_with fail
  refine HE.out.mono ?_
  rintro e w3 ⟨b3, rfl, hb3, q3, rfl⟩
  have HBb := Lib.hid (hb3.trans ⟨fun h => (srtS_iff f n).1 h.2, fun h => ⟨rfl, (srtS_iff f n).2 h⟩⟩)
  have HB3 := Lib.hid (below_drewN HB2.out q3)
  have hee : (b3 == b3) = true := by simp
  clear hb3
  go_wp2_with fail
  refine (HS.out _ HB3.out).mono ?_
  rintro e w4 ⟨b4, rfl, hb4, q4, rfl⟩
  obtain rfl : b4 = b3 := by rw [Bool.eq_iff_iff, hb4, HBb.out]
  have HB4 := Lib.hid (below_drewN HB2.out (q3 + q4))
  clear hb4
  go_wp2_with fail
  refine (HT.out _ HB4.out).mono ?_
  rintro e w5 ⟨b5, rfl, hb5, q5, rfl⟩
  obtain rfl : b5 = b4 := by rw [Bool.eq_iff_iff, hb5, HBb.out]
  have HB5 := Lib.hid (below_drewN HB2.out (q3 + q4 + q5))
  clear hb5
  go_wp2_with fail
  refine (HI.out _ HB5.out).mono ?_
  intro e w6 h6
  obtain ⟨A6, c6, rfl, hr6, hb6⟩ := h6.rd
  have HB6 := Lib.hid (HB5.out.trans (hb6.mono HB5.out.size))
  have HS6 := Lib.hid (implIsSortedStrings n c6 A6 _ w6 _ (by omega) hr6)
  clear hr6 hb6 h6
  go_wp2_with fail
  refine HS6.out.mono ?_
  rintro e w7 ⟨b7, rfl, hb7, q7, rfl⟩
  obtain rfl : b7 = true := hb7.2 (srtS_asc f n)
  have HB7 := Lib.hid (below_drewN HB6.out q7)
  clear hb7
  go_wp2_with fail
  refine (HJ.out _ HB7.out).mono ?_
  intro e w8 h8
  obtain ⟨A8, c8, rfl, hr8, hb8⟩ := h8.rd
  have HB8 := Lib.hid (HB7.out.trans (hb8.mono HB7.out.size))
  have HS8 := Lib.hid (implSortIsSortedStrings n c8 A8 _ w8 _ (by omega) hr8)
  clear hr8 hb8 h8
  go_wp2_with fail
  refine HS8.out.mono ?_
  rintro e w9 ⟨b9, rfl, hb9, q9, rfl⟩
  obtain rfl : b9 = true := hb9.2 (srtS_asc f n)
  clear hb9
  go_wp2_with fail
  go_ret
  exact ⟨rfl, below_drewN HB8.out q9⟩
end Go.Proofs.Ytjddpbamnjdjcaa
