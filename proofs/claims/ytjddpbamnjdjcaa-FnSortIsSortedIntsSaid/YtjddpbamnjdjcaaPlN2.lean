/-
  The walk of the law FnSortIsSortedInts.
-/
import Derived.Test.YtjddpbamnjdjcaaPlN
namespace Go.Proofs.Ytjddpbamnjdjcaa
open Go.RowKit Go.Proofs
set_option linter.unusedVariables false

theorem bool_iffB {a b : Bool} {p q : Prop} (ha : a = true ↔ p) (hb : b = true ↔ q) (h : p ↔ q) : a = b := by
  rw [Bool.eq_iff_iff, ha, hb]; exact h

set_option maxHeartbeats 1000000 in
theorem fnSortIsSortedIntsw (w : World) (A : Option Addr) (n c : Nat) (f : Nat → Int) (hf64 : ∀ i, I64 (f i)) (hl : n ≤ c) (hre : c * 8 ≤ 140737488351232) (hrd : Rd w w.heap.size (Value.int .i64) A n f) :
    Calls Try.prog 10 #[.slice A n c] w fun e w' => e = .returned (.bool true) ∧ Below w.heap.size w w' := by
  have hn : n * 8 ≤ 140737488351232 := by omega
  have hnn : n ≤ 4611686018427387903 := by omega
  have HS := Lib.hid (implSortIsSortedInts n c A f w w.heap.size (by omega) hrd)
  have HI := Lib.hid (fun w' (hb : Below w.heap.size w w') => implSortSortInts A n c w.heap.size f w' hn (hrd.keep hb (Nat.le_refl _)))
  have HR := Lib.hid hrd
  clear hrd hf64 hre hl
  go_enter Try.func10, Try.ntmps10
  go_wp2_with fail
  refine HS.out.mono ?_
  rintro e w1 ⟨b1, rfl, hb1, q1, rfl⟩
  have HB0 : Hid (Below w.heap.size w (w.drewN q1)) := Lib.hid (below_drewN (Below.refl _ _) q1)
  have HB1 := Lib.hid hb1; clear hb1
  go_wp2_with fail
  refine (HI.out _ HB0.out).mono ?_
  intro e w2 h2
  obtain ⟨A2, c2, rfl, hr2, hb2⟩ := h2.rd
  have HB2 := Lib.hid (HB0.out.trans (hb2.mono HB0.out.size))
  have HE := Lib.hid (sameInts n n c2 c A2 A _ f w2 _ _ hnn hnn hr2 (HR.out.keep HB2.out (Nat.le_refl _)))
  clear hr2 hb2 h2
  go_wp2_with fail
  refine HE.out.mono ?_
  rintro e w3 ⟨b3, rfl, hb3, q3, rfl⟩
  obtain rfl : b3 = b1 := bool_iffB hb3 HB1.out ⟨fun h => (srtI_iff f n).1 h.2, fun h => ⟨rfl, (srtI_iff f n).2 h⟩⟩
  have hee : (b3 == b3) = true := by simp
  have HB3 := Lib.hid (below_drewN HB2.out q3)
  clear hb3
  go_wp2_with fail
  refine (HI.out _ HB3.out).mono ?_
  intro e w4 h4
  obtain ⟨A4, c4, rfl, hr4, hb4⟩ := h4.rd
  have HB4 := Lib.hid (HB3.out.trans (hb4.mono HB3.out.size))
  have HS4 := Lib.hid (implSortIsSortedInts n c4 A4 _ w4 _ (by omega) hr4)
  clear hr4 hb4 h4
  go_wp2_with fail
  refine HS4.out.mono ?_
  rintro e w5 ⟨b5, rfl, hb5, q5, rfl⟩
  obtain rfl : b5 = true := hb5.2 (srtI_asc f n)
  clear hb5
  go_wp2_with fail
  go_ret
  exact ⟨rfl, below_drewN HB4.out q5⟩
end Go.Proofs.Ytjddpbamnjdjcaa
