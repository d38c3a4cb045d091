/-
  The walk of the law FnExactSortSortStrings.
-/
import Derived.Test.YtjddpbamnjdjcaaPlX3
namespace Go.Proofs.Ytjddpbamnjdjcaa
open Go.RowKit Go.Proofs
set_option linter.unusedVariables false

set_option maxRecDepth 100000 in
set_option maxHeartbeats 4000000 in
theorem fnExactSortSortStringsw (w : World) (A : Option Addr) (n c : Nat) (f : Nat → ByteArray) (hfs : ∀ i, (f i).size ≤ 9223372036854775807) (hl : n ≤ c) (hre : c * 16 ≤ 140737488351232) (hrd : Rd w w.heap.size Value.string A n f) :
    Calls Try.prog 4 #[.slice A n c] w fun e w' => e = .returned (.bool true) ∧ Below w.heap.size w w' := by
  have hn : n * 16 ≤ 140737488351232 := by omega
  have hnn : n ≤ 9223372036854775807 := by omega
  have HZ := Lib.hid (szStringS n c A f hfs w w.heap.size (by omega) hrd)
  have HZ0 := Lib.hid (fun h => szStringS_big n c A f w (by omega) h)
  have HFS := Lib.hid hfs
  have HT := Lib.hid (fun w' (hb : Below w.heap.size w w') => toStringS n c A f w' w.heap.size hb.size (by omega) (hrd.keep hb (Nat.le_refl _)))
  have HIm := Lib.hid (fun w' A1 c1 (hr : Rd w' w'.heap.size Value.string A1 n f) => implSortSortStrings A1 n c1 w'.heap.size f w' hn hr)
  have HSp := Lib.hid (fun w' A1 c1 (hr : Rd w' w'.heap.size Value.string A1 n f) => specSortSortStrings A1 n c1 w'.heap.size f HFS.out w' hn (Nat.le_refl _) hr)
  have rdn : ∀ (w' : World) (g : Nat), w'.rowIs g 9 n (fun i => Value.string (f i)) → Rd w' w'.heap.size Value.string (some ⟨g, 0, none⟩) n f := fun w' g h => fun _ => ⟨_, 0, rfl, h.lt, fun i hi => by rw [Nat.zero_add]; exact h.cell hi⟩
  have HRd := Lib.hid rdn; clear rdn
  clear hrd hfs hre hl
  by_cases hbig : 1048576 < n
  · clear HT HIm HSp
    go_enter Try.func4, Try.ntmps4
    go_wp2_with fail
    refine (HZ0.out (by omega)).mono ?_
    rintro e w0 ⟨r, rfl, hr0, rfl⟩
    go_wp2_with fail
    go_ret
    exact ⟨rfl, Below.refl _ _⟩
  · have hn20 : n ≤ 1048576 := by omega
    obtain ⟨mk, hmk⟩ : ∃ mk : Int, ((1 + n : Nat) : Int) = mk := ⟨_, rfl⟩
    have hmk0 : ¬ (mk < 0) := by omega
    have hmm : (mk != mk) = false := by simp
    have HMk := Lib.hid hmk; clear hmk
    generalize srtS f n = s at *
    go_enter Try.func4, Try.ntmps4
    go_wp2_with fail
    refine HZ.out.mono ?_
    rintro e w0' ⟨r, rfl, rfl⟩
    clear HZ HZ0
    by_cases hr0 : r < 0
    · go_wp2_with fail
      go_ret
      exact ⟨rfl, Below.refl _ _⟩
    go_wp2_with fail
    -- w0 := spec(to(aX))
    refine (HT.out w (Below.refl _ _)).mono ?_
    rintro e w1 ⟨g1, rfl, hg1, hr1, hb1⟩
    have HC := Lib.hid (HSp.out w1 _ n (HRd.out _ _ hr1))
    have HB := Lib.hid hb1
    clear hr1 hb1 hg1
    go_wp2_with fail
    refine HC.out.mono ?_
    intro e w2 h2
    obtain ⟨A2, c2, rfl, hr2, hb2⟩ := h2.rd
    have HB2 := Lib.hid (HB.out.trans (hb2.mono HB.out.size))
    have HR2 := Lib.hid hr2
    clear HC hr2 hb2 HB h2
    -- x0 := to(aX)
    go_wp2_with fail
    refine (HT.out w2 HB2.out).mono ?_
    rintro e w3 ⟨g3, rfl, hg3, hr3, hb3⟩
    have HC := Lib.hid (HIm.out w3 _ n (HRd.out _ _ hr3))
    have HG3 := Lib.hid (And.intro hg3 hr3.lt)
    have HX3 : Hid (OwnRow w3 w2.heap.size 9 1 (.slice (some ⟨g3, 0, none⟩) n n) n (fun i => Value.string (f i))) := Lib.hid (.inr ⟨g3, n, rfl, hg3, Nat.le_refl _, by rw [Nat.mul_one]; exact hr3⟩)
    have HB3 := Lib.hid (HB2.out.trans (hb3.mono HB2.out.size))
    have HR3 := Lib.hid (HR2.out.keep hb3 (Nat.le_refl _))
    have HS23 := Lib.hid hb3.size
    clear hr3 hb3 hg3 HR2
    -- g0 := impl(x0)
    go_wp2_with fail
    refine HC.out.mono ?_
    rintro e w4 ⟨v4, rfl, ⟨G4, hG4, hF4⟩, hb4⟩
    obtain ⟨A4, c4, rfl, hr4⟩ := hG4.rd hF4
    have HO4 := Lib.hid (And.intro hG4 hF4)
    have HX4 := Lib.hid (HX3.out.keep hb4)
    have HB4 := Lib.hid (HB3.out.trans (hb4.mono HB3.out.size))
    have HR4 := Lib.hid (HR3.out.keep hb4 HS23.out)
    have HS34 := Lib.hid hb4.size
    have HE := Lib.hid (eqStringS n n c4 c2 A4 A2 s s w4 _ _ hnn hnn hr4 (HR4.out.more (Nat.le_trans HS23.out HS34.out)))
    clear hG4 hF4 hr4 hb4 HC HX3 HR3
    -- eq(g0, w0)
    go_wp2_with fail
    refine HE.out.mono ?_
    rintro e w5 ⟨b5, rfl, hq5, q5, hw5⟩
    have hb5 : Below w4.heap.size w4 w5 := by rw [hw5]; exact below_drewN (Below.refl _ _) q5
    obtain rfl : b5 = true := hq5.2 ⟨rfl, fun _ _ => rfl⟩
    have HO5 := Lib.hid (And.intro (HO4.out.1.keep hb5) HO4.out.2)
    have HX5 := Lib.hid (HX4.out.keep hb5)
    have HB5 := Lib.hid (HB4.out.trans (hb5.mono HB4.out.size))
    have HR5 := Lib.hid (HR4.out.keep hb5 (Nat.le_trans HS23.out HS34.out))
    have HS35 := Lib.hid (Nat.le_trans HS34.out hb5.size)
    clear hq5 hb5 hw5 HE HO4 HX4 HR4 HS34
    -- eq(x0, to(aX))
    go_wp2_with fail
    refine (HT.out w5 HB5.out).mono ?_
    rintro e w6 ⟨g6, rfl, hg6, hr6, hb6⟩
    have HO6 := Lib.hid (And.intro (HO5.out.1.keep hb6) HO5.out.2)
    have HX6 := Lib.hid (HX5.out.keep hb6)
    have HB6 := Lib.hid (HB5.out.trans (hb6.mono HB5.out.size))
    have HR6 := Lib.hid (HR5.out.keep hb6 (Nat.le_trans HS23.out HS35.out))
    have HS36 := Lib.hid (Nat.le_trans HS35.out hb6.size)
    obtain ⟨Ax, cx, hx, hrx⟩ := HX6.out.rd (enc := Value.string) (f := f) (fun i _ => rfl)
    simp only [Value.slice.injEq] at hx
    obtain ⟨rfl, _, rfl⟩ := hx
    have HE := Lib.hid (eqStringS n n n n (some ⟨g3, 0, none⟩) (some ⟨g6, 0, none⟩) f f w6 _ _ hnn hnn hrx (HRd.out _ _ hr6))
    clear hg6 hr6 hb6 HO5 HX5 HR5 HS35 hrx
    go_wp2_with fail
    refine HE.out.mono ?_
    rintro e w7 ⟨b7, rfl, hq7, q7, hw7⟩
    have hb7 : Below w6.heap.size w6 w7 := by rw [hw7]; exact below_drewN (Below.refl _ _) q7
    obtain rfl : b7 = true := hq7.2 ⟨rfl, fun _ _ => rfl⟩
    have HO7 := Lib.hid (And.intro (HO6.out.1.keep hb7) HO6.out.2)
    have HX7 := Lib.hid (HX6.out.keep hb7)
    have HB7 := Lib.hid (HB6.out.trans (hb7.mono HB6.out.size))
    have HR7 := Lib.hid (HR6.out.keep hb7 (Nat.le_trans HS23.out HS36.out))
    have HS37 := Lib.hid (Nat.le_trans HS36.out hb7.size)
    have HC := Lib.hid (markStringS (.slice (some ⟨g3, 0, none⟩) n n) n w2.heap.size 1 _ w7 hn20 (by omega) HX7.out)
    clear hq7 hb7 hw7 HE HO6 HX6 HR6 HS36
    -- k = mark(x0, k)
    go_wp2_with fail
    refine HC.out.mono ?_
    rintro e w8 ⟨he8, _, ho8⟩
    obtain rfl : e = .returned (.int .i64 mk) := he8.trans (by rw [HMk.out])
    have HO8 := Lib.hid (And.intro (HO7.out.1.onlyB ho8 (.inr fun q => by
      have h1 := HG3.out.2
      have h2 : w3.heap.size ≤ g3 := HO7.out.1.lowB q
      omega)) HO7.out.2)
    have HB8 := Lib.hid (HB7.out.trans (ho8.bel w.heap.size HB7.out.size (fun k hk => by
      simp only [Value.ownBlock, Option.some.injEq] at hk
      have := HG3.out.1; have := HB2.out.size; omega)))
    have HR8 := Lib.hid (HR7.out.keep (ho8.bel w2.heap.size (Nat.le_trans HS23.out HS37.out) (fun k hk => by
      simp only [Value.ownBlock, Option.some.injEq] at hk
      have := HG3.out.1; omega)) (Nat.le_refl _))
    have HS38 := Lib.hid (Nat.le_trans HS37.out ho8.size)
    obtain ⟨Ax, cx, hx, hrx⟩ := HO8.out.1.rd HO8.out.2
    simp only [Value.slice.injEq] at hx
    obtain ⟨rfl, _, rfl⟩ := hx
    have HE := Lib.hid (eqStringS n n c4 c2 A4 A2 s s w8 _ _ hnn hnn hrx (HR8.out.more (Nat.le_trans HS23.out HS38.out)))
    clear he8 ho8 HC HO7 HX7 HR7 HS37 hrx
    -- k < 0 || !eq(g0, w0)
    go_wp2_with fail
    refine HE.out.mono ?_
    rintro e w9 ⟨b9, rfl, hq9, q9, hw9⟩
    have hb9 : Below w8.heap.size w8 w9 := by rw [hw9]; exact below_drewN (Below.refl _ _) q9
    obtain rfl : b9 = true := hq9.2 ⟨rfl, fun _ _ => rfl⟩
    have HO9 := Lib.hid (HO8.out.1.keep hb9)
    have HB9 := Lib.hid (HB8.out.trans (hb9.mono HB8.out.size))
    have HR9 := Lib.hid (HR8.out.keep hb9 (Nat.le_trans HS23.out HS38.out))
    have HS39 := Lib.hid (Nat.le_trans HS38.out hb9.size)
    have HC := Lib.hid (markStringS (.slice A4 n c4) n w3.heap.size 1 G4 w9 hn20 (by omega) HO9.out)
    clear hq9 hb9 hw9 HE HO8 HR8 HS38
    -- m = mark(g0, m)
    go_wp2_with fail
    refine HC.out.mono ?_
    rintro e w10 ⟨he10, ⟨F10, hO10, hF10⟩, ho10⟩
    obtain rfl : e = .returned (.int .i64 mk) := he10.trans (by rw [HMk.out])
    have HO10 := Lib.hid (And.intro hO10 hF10)
    have HB10 := Lib.hid (HB9.out.trans (ho10.bel w.heap.size HB9.out.size (fun k hk => by have := hO10.lowB hk; have := HB3.out.size; omega)))
    have HR10 := Lib.hid (HR9.out.keep (ho10.bel w2.heap.size (Nat.le_trans HS23.out HS39.out) (fun k hk => by have := hO10.lowB hk; have := HS23.out; omega)) (Nat.le_refl _))
    have HS310 := Lib.hid (Nat.le_trans HS39.out ho10.size)
    have HH := Lib.hid (heldStringS (.slice A4 n c4) n w3.heap.size 1 F10 w10 hn20 (by omega) hO10 hF10)
    clear he10 hO10 hF10 ho10 HC HO9 HR9 HS39
    -- q = held(g0, q)
    go_wp2_with fail
    refine HH.out.mono ?_
    rintro e w11 ⟨he11, hb11⟩
    obtain rfl : e = .returned (.int .i64 mk) := he11.trans (by rw [HMk.out])
    have HO11 := Lib.hid (And.intro (HO10.out.1.keep hb11) HO10.out.2)
    have HB11 := Lib.hid (HB10.out.trans (hb11.mono HB10.out.size))
    have HR11 := Lib.hid (HR10.out.keep hb11 (Nat.le_trans HS23.out HS310.out))
    have HS311 := Lib.hid (Nat.le_trans HS310.out hb11.size)
    clear he11 HH hb11 HO10 HR10 HS310
    -- h0 := impl(to(aX))
    go_wp2_with fail
    refine (HT.out w11 HB11.out).mono ?_
    rintro e w12 ⟨g12, rfl, hg12, hr12, hb12⟩
    have HO12 := Lib.hid (And.intro (HO11.out.1.keep hb12) HO11.out.2)
    have HB12 := Lib.hid (HB11.out.trans (hb12.mono HB11.out.size))
    have HR12 := Lib.hid (HR11.out.keep hb12 (Nat.le_trans HS23.out HS311.out))
    have HS312 := Lib.hid (Nat.le_trans HS311.out hb12.size)
    have HC := Lib.hid (HIm.out w12 _ n (HRd.out _ _ hr12))
    clear hg12 hr12 hb12 HO11 HR11 HS311
    go_wp2_with fail
    refine HC.out.mono ?_
    intro e w13 h13
    obtain ⟨A13, c13, rfl, hr13, hb13⟩ := h13.rd
    have HO13 := Lib.hid (And.intro (HO12.out.1.keep hb13) HO12.out.2)
    have HB13 := Lib.hid (HB12.out.trans (hb13.mono HB12.out.size))
    have HR13 := Lib.hid (HR12.out.keep hb13 (Nat.le_trans HS23.out HS312.out))
    have HS313 := Lib.hid (Nat.le_trans HS312.out hb13.size)
    have HE := Lib.hid (eqStringS n n c13 c2 A13 A2 s s w13 _ _ hnn hnn hr13 (HR13.out.more (Nat.le_trans HS23.out HS313.out)))
    clear hr13 hb13 h13 HC HO12 HR12 HS312
    -- eq(h0, w0)
    go_wp2_with fail
    refine HE.out.mono ?_
    rintro e w14 ⟨b14, rfl, hq14, q14, hw14⟩
    have hb14 : Below w13.heap.size w13 w14 := by rw [hw14]; exact below_drewN (Below.refl _ _) q14
    obtain rfl : b14 = true := hq14.2 ⟨rfl, fun _ _ => rfl⟩
    have HO14 := Lib.hid (And.intro (HO13.out.1.keep hb14) HO13.out.2)
    have HB14 := Lib.hid (HB13.out.trans (hb14.mono HB13.out.size))
    have HH := Lib.hid (heldStringS (.slice A4 n c4) n w3.heap.size 1 F10 w14 hn20 (by omega) HO14.out.1 HO14.out.2)
    clear hq14 hb14 hw14 HE HO13 HR13 HS313
    go_wp2_with fail
    refine HH.out.mono ?_
    rintro e w15 ⟨he15, hb15⟩
    obtain rfl : e = .returned (.int .i64 mk) := he15.trans (by rw [HMk.out])
    have HB15 := Lib.hid (HB14.out.trans (hb15.mono HB14.out.size))
    clear he15 HH hb15
    go_wp2_with fail
    go_ret
    exact ⟨rfl, HB15.out⟩
end Go.Proofs.Ytjddpbamnjdjcaa
