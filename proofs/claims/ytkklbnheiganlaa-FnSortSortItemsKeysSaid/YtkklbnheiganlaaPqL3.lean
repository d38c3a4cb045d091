/-
  The walk of the law FnSortSortItemsKeys.
-/
import Derived.Test.YtkklbnheiganlaaPqL2
import Derived.Test.YtkklbnheiganlaaPlI
namespace Go.Proofs.Ytkklbnheiganlaa
open Go.RowKit Go.Proofs
set_option linter.unusedVariables false

/-- The keys behind sort.Sort by keys are the sorted keys. -/
theorem sortKey_srt (f : Nat → Int × Int) {n : Nat} (hn : n < 18446744073709551616) : ∀ k, k < n → (f (sortP (keyT f) n k)).1 = srtI (fun i => (f i).1) n k :=
  srtF_unique lin_leI 0 (g := fun k => (f (sortP (keyT f) n k)).1) (fun i j hij hj => by
    have := sortP_sorted (keyT_swo f) hn hij hj
    rw [keyT_no] at this
    exact decide_eq_true this) (fun x => sortP_count (keyT f) n (fun k => decide ((f k).1 = x)))

set_option maxHeartbeats 2000000 in
theorem fnSortSortItemsKeysw (w : World) (A : Option Addr) (n c : Nat) (f : Nat → Int × Int) (hf64 : ∀ i, I64 (f i).1 ∧ I64 (f i).2) (hl : n ≤ c) (hre : c * 16 ≤ 140737488351232) (hrd : RdI w w.heap.size A n f) :
    Calls Try.prog 12 #[.slice A n c] w fun e w' => e = .returned (.bool true) ∧ Below w.heap.size w w' := by
  have hn : n * 16 ≤ 140737488351232 := by omega
  have hnn : n ≤ 4611686018427387903 := by omega
  have HT := Lib.hid (toItems A n c w.heap.size f w hn (Nat.le_refl _) hrd)
  have HSo := Lib.hid (fun w' A1 c1 (hr : RdI w' w'.heap.size A1 n f) => implSortSortItems A1 n c1 w'.heap.size f w' hn hr)
  have HF := Lib.hid (sortKey_srt f (n := n) (by omega))
  clear hrd hf64 hre hl
  generalize sortP (keyT f) n = s at *
  go_enter Try.func12, Try.ntmps12
  go_wp2_with fail
  refine HT.out.mono ?_
  rintro e w1 ⟨A1, c1, rfl, hr1, hb1⟩
  have HC := Lib.hid (HSo.out w1 A1 c1 hr1)
  have HR1 := Lib.hid hr1
  have HB1 := Lib.hid hb1
  clear hr1 hb1
  go_wp2_with fail
  refine HC.out.mono ?_
  intro e w2 h2
  obtain ⟨A2, c2, rfl, hr2, hb2⟩ := h2.rd
  have HC2 := Lib.hid (keysOf A2 n c2 _ _ w2 hn (Nat.le_refl _) hr2)
  have HR2 := Lib.hid (And.intro (HR1.out.keep hb2 (Nat.le_refl _)) hb2.size)
  have HB2 := Lib.hid (HB1.out.trans (hb2.mono HB1.out.size))
  clear hr2 hb2 h2 HC HB1 HR1
  go_wp2_with fail
  refine HC2.out.mono ?_
  rintro e w3 ⟨A3, c3, rfl, hr3, hb3⟩
  have HR3 := Lib.hid hr3
  have HC3 := Lib.hid (keysOf A1 n c1 _ _ w3 hn (Nat.le_trans HR2.out.2 hb3.size) (HR2.out.1.keep hb3 HR2.out.2))
  have HB3 := Lib.hid (HB2.out.trans (hb3.mono HB2.out.size))
  clear hr3 hb3 HC2 HB2 HR2
  have hne : ((n : Int) == (n : Int)) = true := by simp
  go_wp2_with fail
  refine HC3.out.mono ?_
  rintro e w4 ⟨A4, c4, rfl, hr4, hb4⟩
  have HC4 := Lib.hid (implSortSortInts A4 n c4 _ _ w4 (by omega) hr4)
  have HR4 := Lib.hid (And.intro (HR3.out.keep hb4 (Nat.le_refl _)) hb4.size)
  have HB4 := Lib.hid (HB3.out.trans (hb4.mono HB3.out.size))
  clear hr4 hb4 HC3 HB3 HR3
  go_wp2_with fail
  refine HC4.out.mono ?_
  intro e w5 h5
  obtain ⟨A5, c5, rfl, hr5, hb5⟩ := h5.rd
  have HE := Lib.hid (sameInts n n c3 c5 A3 A5 _ _ w5 _ _ hnn hnn (HR4.out.1.keep hb5 HR4.out.2) hr5)
  have HB5 := Lib.hid (HB4.out.trans (hb5.mono HB4.out.size))
  clear hr5 hb5 h5 HC4 HB4 HR4
  go_wp2_with fail
  refine HE.out.mono ?_
  rintro e w6 ⟨b6, rfl, hb6, q6, rfl⟩
  obtain rfl : b6 = true := hb6.2 ⟨rfl, fun i hi => HF.out i hi⟩
  clear hb6
  go_wp2_with fail
  go_ret
  exact ⟨rfl, below_drewN HB5.out q6⟩
end Go.Proofs.Ytkklbnheiganlaa
