/-
  The walks of the laws FnItemSortsAgreeOnKeys and FnIsSortedOfOrder.
-/
import Derived.Test.YtjammaglboehcaaPqF
import Derived.Test.YtjammaglboehcaaPqL3
import Derived.Test.YtjammaglboehcaaStV
import Derived.Test.YtjammaglboehcaaZS
namespace Go.Proofs.Ytjammaglboehcaa
open Go.RowKit Go.Proofs
set_option linter.unusedVariables false

/-- Keys in ascending order with the counts of f's are the sorted keys. -/
theorem keys_srt (f g : Nat → Int × Int) {n : Nat} (hs : ∀ i j, i < j → j < n → (g i).1 ≤ (g j).1) (hc : ∀ q : Int × Int → Bool, cnt (fun k => q (g k)) n = cnt (fun k => q (f k)) n) : ∀ k, k < n → (g k).1 = srtI (fun i => (f i).1) n k :=
  srtF_unique lin_leI 0 (g := fun k => (g k).1) (fun i j hij hj => decide_eq_true (hs i j hij hj)) (fun x => hc (fun y => decide (y.1 = x)))
theorem stableKey_srt (f : Nat → Int × Int) (n : Nat) : ∀ k, k < n → (f (stable (tabM (keyT f)) n (fun k => k) k)).1 = srtI (fun i => (f i).1) n k :=
  keys_srt f (fun k => f (stable (tabM (keyT f)) n (fun k => k) k)) (fun i j hij hj => by
    rcases stable_ord (keyT_swo f) n i j (Nat.zero_le _) hij hj with h | ⟨h, _⟩
    · rw [keyT_yes] at h; exact Int.le_of_lt h
    · rw [keyT_no] at h; exact h) (fun q => stable_count (keyT f) n (fun k => q (f k)))

set_option maxRecDepth 100000 in
set_option maxHeartbeats 4000000 in
theorem fnItemSortsAgreeOnKeysw (w : World) (A : Option Addr) (n c : Nat) (f : Nat → Int × Int) (hf64 : ∀ i, I64 (f i).1 ∧ I64 (f i).2) (hl : n ≤ c) (hre : c * 16 ≤ 140737488351232) (hrd : RdI w w.heap.size A n f) :
    Calls Try.prog 3 #[.slice A n c] w fun e w' => e = .returned (.bool true) ∧ Below w.heap.size w w' := by
  have hn : n * 16 ≤ 140737488351232 := by omega
  have hnn : n ≤ 4611686018427387903 := by omega
  have HT := Lib.hid (toItems A n c w.heap.size f w hn (Nat.le_refl _) hrd)
  have HSortItems : Hid (∀ w' B' A1 c1, B' ≤ w'.heap.size → RdI w' B' A1 n f → Calls Try.prog 11 #[.slice A1 n c1] w' fun e w2 => ∃ A2 c2 g, e = .returned (.slice A2 n c2) ∧ RdI w2 w2.heap.size A2 n g ∧ Below w'.heap.size w' w2 ∧ ∀ k, k < n → (g k).1 = srtI (fun i => (f i).1) n k) := Lib.hid (fun w' B' A1 c1 hB hr => (implSortItems A1 n c1 B' f w' hn hr).mono fun e w2 h => by
    obtain ⟨A2, c2, g, rfl, h1, h2, h3, h4⟩ := h
    exact ⟨A2, c2, g, rfl, h1, h2, keys_srt f g (fun i j hij hj => by have := h4 i j hij hj; simp only [decide_eq_false_iff_not] at this; omega) h3⟩)
  have HSortSortItems : Hid (∀ w' B' A1 c1, B' ≤ w'.heap.size → RdI w' B' A1 n f → Calls Try.prog 13 #[.slice A1 n c1] w' fun e w2 => ∃ A2 c2 g, e = .returned (.slice A2 n c2) ∧ RdI w2 w2.heap.size A2 n g ∧ Below w'.heap.size w' w2 ∧ ∀ k, k < n → (g k).1 = srtI (fun i => (f i).1) n k) := Lib.hid (fun w' B' A1 c1 hB hr => (implSortSortItems A1 n c1 B' f w' hn hr).mono fun e w2 h => by
    obtain ⟨A2, c2, rfl, h1, h2⟩ := h.rd
    exact ⟨A2, c2, _, rfl, h1, h2, sortKey_srt f (by omega)⟩)
  have HStableItems : Hid (∀ w' B' A1 c1, B' ≤ w'.heap.size → RdI w' B' A1 n f → Calls Try.prog 14 #[.slice A1 n c1] w' fun e w2 => ∃ A2 c2 g, e = .returned (.slice A2 n c2) ∧ RdI w2 w2.heap.size A2 n g ∧ Below w'.heap.size w' w2 ∧ ∀ k, k < n → (g k).1 = srtI (fun i => (f i).1) n k) := Lib.hid (fun w' B' A1 c1 hB hr => (implStableItems A1 n c1 B' f w' hn hr).mono fun e w2 h => by
    obtain ⟨A2, c2, rfl, h1, h2⟩ := h.rd
    exact ⟨A2, c2, _, rfl, h1, h2, stableKey_srt f n⟩)
  have HSortStableItems : Hid (∀ w' B' A1 c1, B' ≤ w'.heap.size → RdI w' B' A1 n f → Calls Try.prog 15 #[.slice A1 n c1] w' fun e w2 => ∃ A2 c2 g, e = .returned (.slice A2 n c2) ∧ RdI w2 w2.heap.size A2 n g ∧ Below w'.heap.size w' w2 ∧ ∀ k, k < n → (g k).1 = srtI (fun i => (f i).1) n k) := Lib.hid (fun w' B' A1 c1 hB hr => (implSortStableItems A1 n c1 B' f w' hn hr).mono fun e w2 h => by
    obtain ⟨A2, c2, rfl, h1, h2⟩ := h.rd
    exact ⟨A2, c2, _, rfl, h1, h2, stableKey_srt f n⟩)
  have HSliceStableItems : Hid (∀ w' B' A1 c1, B' ≤ w'.heap.size → RdI w' B' A1 n f → Calls Try.prog 16 #[.slice A1 n c1] w' fun e w2 => ∃ A2 c2 g, e = .returned (.slice A2 n c2) ∧ RdI w2 w2.heap.size A2 n g ∧ Below w'.heap.size w' w2 ∧ ∀ k, k < n → (g k).1 = srtI (fun i => (f i).1) n k) := Lib.hid (fun w' B' A1 c1 hB hr => (implSliceStableItems A1 n c1 B' f w' hn hr).mono fun e w2 h => by
    obtain ⟨A2, c2, rfl, h1, h2⟩ := h.rd
    exact ⟨A2, c2, _, rfl, h1, h2, stableKey_srt f n⟩)
  clear hrd hf64 hre hl
  generalize srtI (fun i => (f i).1) n = sk at *
  go_enter Try.func3, Try.ntmps3
  go_wp2_with fail
  refine HT.out.mono ?_
  rintro e w1 ⟨A1, c1, rfl, hr1, hb1⟩
  have HI := Lib.hid (And.intro hr1 (Nat.le_refl w1.heap.size))
  have HB := Lib.hid hb1
  have HC := Lib.hid (HSortItems.out w1 _ A1 c1 (Nat.le_refl _) hr1)
  clear hr1 hb1
  go_wp2_with fail
  refine HC.out.mono ?_
  rintro e w2 ⟨A2, c2, g2, rfl, hr, hb, hk⟩
  have HKy := Lib.hid hk
  have HC2 := Lib.hid (keysOf A2 n c2 _ _ w2 hn (Nat.le_refl _) hr)
  have HI := Lib.hid (And.intro (HI.out.1.keep hb HI.out.2) (Nat.le_trans HI.out.2 hb.size))
  have HB := Lib.hid (HB.out.trans (hb.mono HB.out.size))
  clear hr hb hk HC
  go_wp2_with fail
  refine HC2.out.mono ?_
  rintro e w3 ⟨Ay, cy, rfl, hr, hb⟩
  have HY := Lib.hid (And.intro hr (Nat.le_refl w3.heap.size))
  have HI := Lib.hid (And.intro (HI.out.1.keep hb HI.out.2) (Nat.le_trans HI.out.2 hb.size))
  have HB := Lib.hid (HB.out.trans (hb.mono HB.out.size))
  clear hr hb HC2
  have hne : ((n : Int) == (n : Int)) = true := by simp
  -- SortSortItems
  have HC := Lib.hid (HSortSortItems.out w3 _ A1 c1 HI.out.2 HI.out.1)
  go_wp2_with fail
  refine HC.out.mono ?_
  rintro e w4 ⟨A4, c4, g4, rfl, hr, hb, hk⟩
  have HK := Lib.hid hk
  have HC2 := Lib.hid (keysOf A4 n c4 _ _ w4 hn (Nat.le_refl _) hr)
  have HY := Lib.hid (And.intro (HY.out.1.keep hb HY.out.2) (Nat.le_trans HY.out.2 hb.size))
  have HI := Lib.hid (And.intro (HI.out.1.keep hb HI.out.2) (Nat.le_trans HI.out.2 hb.size))
  have HB := Lib.hid (HB.out.trans (hb.mono HB.out.size))
  clear hr hb hk HC
  go_wp2_with fail
  refine HC2.out.mono ?_
  rintro e w5 ⟨A5, c5, rfl, hr, hb⟩
  have HE := Lib.hid (sameInts n n cy c5 Ay A5 _ _ w5 _ _ hnn hnn (HY.out.1.keep hb HY.out.2) hr)
  have HY := Lib.hid (And.intro (HY.out.1.keep hb HY.out.2) (Nat.le_trans HY.out.2 hb.size))
  have HI := Lib.hid (And.intro (HI.out.1.keep hb HI.out.2) (Nat.le_trans HI.out.2 hb.size))
  have HB := Lib.hid (HB.out.trans (hb.mono HB.out.size))
  clear hr hb HC2
  go_wp2_with fail
  refine HE.out.mono ?_
  rintro e w6 ⟨b, rfl, hb, q, rfl⟩
  obtain rfl : b = true := hb.2 ⟨rfl, fun k hk => (HKy.out k hk).trans (HK.out k hk).symm⟩
  have HY := Lib.hid (And.intro (HY.out.1.drewN q) HY.out.2)
  have HI := Lib.hid (And.intro (HI.out.1.drewN q) HI.out.2)
  have HB := Lib.hid (below_drewN HB.out q)
  clear hb HE HK
  -- StableItems
  have HC := Lib.hid (HStableItems.out (w5.drewN q) _ A1 c1 HI.out.2 HI.out.1)
  go_wp2_with fail
  refine HC.out.mono ?_
  rintro e w7 ⟨A7, c7, g7, rfl, hr, hb, hk⟩
  have HK := Lib.hid hk
  have HC2 := Lib.hid (keysOf A7 n c7 _ _ w7 hn (Nat.le_refl _) hr)
  have HY := Lib.hid (And.intro (HY.out.1.keep hb HY.out.2) (Nat.le_trans HY.out.2 hb.size))
  have HI := Lib.hid (And.intro (HI.out.1.keep hb HI.out.2) (Nat.le_trans HI.out.2 hb.size))
  have HB := Lib.hid (HB.out.trans (hb.mono HB.out.size))
  clear hr hb hk HC
  go_wp2_with fail
  refine HC2.out.mono ?_
  rintro e w8 ⟨A8, c8, rfl, hr, hb⟩
  have HE := Lib.hid (sameInts n n cy c8 Ay A8 _ _ w8 _ _ hnn hnn (HY.out.1.keep hb HY.out.2) hr)
  have HY := Lib.hid (And.intro (HY.out.1.keep hb HY.out.2) (Nat.le_trans HY.out.2 hb.size))
  have HI := Lib.hid (And.intro (HI.out.1.keep hb HI.out.2) (Nat.le_trans HI.out.2 hb.size))
  have HB := Lib.hid (HB.out.trans (hb.mono HB.out.size))
  clear hr hb HC2
  go_wp2_with fail
  refine HE.out.mono ?_
  rintro e w9 ⟨b, rfl, hb, q, rfl⟩
  obtain rfl : b = true := hb.2 ⟨rfl, fun k hk => (HKy.out k hk).trans (HK.out k hk).symm⟩
  have HY := Lib.hid (And.intro (HY.out.1.drewN q) HY.out.2)
  have HI := Lib.hid (And.intro (HI.out.1.drewN q) HI.out.2)
  have HB := Lib.hid (below_drewN HB.out q)
  clear hb HE HK
  -- SortStableItems
  have HC := Lib.hid (HSortStableItems.out (w8.drewN q) _ A1 c1 HI.out.2 HI.out.1)
  go_wp2_with fail
  refine HC.out.mono ?_
  rintro e w10 ⟨A10, c10, g10, rfl, hr, hb, hk⟩
  have HK := Lib.hid hk
  have HC2 := Lib.hid (keysOf A10 n c10 _ _ w10 hn (Nat.le_refl _) hr)
  have HY := Lib.hid (And.intro (HY.out.1.keep hb HY.out.2) (Nat.le_trans HY.out.2 hb.size))
  have HI := Lib.hid (And.intro (HI.out.1.keep hb HI.out.2) (Nat.le_trans HI.out.2 hb.size))
  have HB := Lib.hid (HB.out.trans (hb.mono HB.out.size))
  clear hr hb hk HC
  go_wp2_with fail
  refine HC2.out.mono ?_
  rintro e w11 ⟨A11, c11, rfl, hr, hb⟩
  have HE := Lib.hid (sameInts n n cy c11 Ay A11 _ _ w11 _ _ hnn hnn (HY.out.1.keep hb HY.out.2) hr)
  have HY := Lib.hid (And.intro (HY.out.1.keep hb HY.out.2) (Nat.le_trans HY.out.2 hb.size))
  have HI := Lib.hid (And.intro (HI.out.1.keep hb HI.out.2) (Nat.le_trans HI.out.2 hb.size))
  have HB := Lib.hid (HB.out.trans (hb.mono HB.out.size))
  clear hr hb HC2
  go_wp2_with fail
  refine HE.out.mono ?_
  rintro e w12 ⟨b, rfl, hb, q, rfl⟩
  obtain rfl : b = true := hb.2 ⟨rfl, fun k hk => (HKy.out k hk).trans (HK.out k hk).symm⟩
  have HY := Lib.hid (And.intro (HY.out.1.drewN q) HY.out.2)
  have HI := Lib.hid (And.intro (HI.out.1.drewN q) HI.out.2)
  have HB := Lib.hid (below_drewN HB.out q)
  clear hb HE HK
  -- SliceStableItems
  have HC := Lib.hid (HSliceStableItems.out (w11.drewN q) _ A1 c1 HI.out.2 HI.out.1)
  go_wp2_with fail
  refine HC.out.mono ?_
  rintro e w13 ⟨A13, c13, g13, rfl, hr, hb, hk⟩
  have HK := Lib.hid hk
  have HC2 := Lib.hid (keysOf A13 n c13 _ _ w13 hn (Nat.le_refl _) hr)
  have HY := Lib.hid (And.intro (HY.out.1.keep hb HY.out.2) (Nat.le_trans HY.out.2 hb.size))
  have HI := Lib.hid (And.intro (HI.out.1.keep hb HI.out.2) (Nat.le_trans HI.out.2 hb.size))
  have HB := Lib.hid (HB.out.trans (hb.mono HB.out.size))
  clear hr hb hk HC
  go_wp2_with fail
  refine HC2.out.mono ?_
  rintro e w14 ⟨A14, c14, rfl, hr, hb⟩
  have HE := Lib.hid (sameInts n n cy c14 Ay A14 _ _ w14 _ _ hnn hnn (HY.out.1.keep hb HY.out.2) hr)
  have HY := Lib.hid (And.intro (HY.out.1.keep hb HY.out.2) (Nat.le_trans HY.out.2 hb.size))
  have HI := Lib.hid (And.intro (HI.out.1.keep hb HI.out.2) (Nat.le_trans HI.out.2 hb.size))
  have HB := Lib.hid (HB.out.trans (hb.mono HB.out.size))
  clear hr hb HC2
  go_wp2_with fail
  refine HE.out.mono ?_
  rintro e w15 ⟨b, rfl, hb, q, rfl⟩
  obtain rfl : b = true := hb.2 ⟨rfl, fun k hk => (HKy.out k hk).trans (HK.out k hk).symm⟩
  have HY := Lib.hid (And.intro (HY.out.1.drewN q) HY.out.2)
  have HI := Lib.hid (And.intro (HI.out.1.drewN q) HI.out.2)
  have HB := Lib.hid (below_drewN HB.out q)
  clear hb HE HK
  go_wp2_with fail
  go_ret
  exact ⟨rfl, HB.out⟩
end Go.Proofs.Ytjammaglboehcaa
