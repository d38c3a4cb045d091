/-
  The walk of the law FnExactSortSortWhole.
-/
import Derived.Test.YtkklbnheiganlaaPqW
import Derived.Test.YtkklbnheiganlaaStL2
namespace Go.Proofs.Ytkklbnheiganlaa
open Go.RowKit Go.Proofs
set_option linter.unusedVariables false

set_option maxRecDepth 100000 in
set_option maxHeartbeats 4000000 in
theorem fnExactSortSortWholew (w : World) (A : Option Addr) (n c : Nat) (f : Nat → Int × Int) (hf64 : ∀ i, I64 (f i).1 ∧ I64 (f i).2) (hl : n ≤ c) (hre : c * 16 ≤ 140737488351232) (hrd : RdI w w.heap.size A n f) :
    Calls Try.prog 3 #[.slice A n c] w fun e w' => e = .returned (.bool true) ∧ Below w.heap.size w w' := by
  have hn : n * 16 ≤ 140737488351232 := by omega
  have hnn : n ≤ 4611686018427387903 := by omega
  have HT := Lib.hid (fun w' (hb : Below w.heap.size w w') => toItemS n c A f w' w.heap.size hb.size (by omega) (hrd.keep hb (Nat.le_refl _)))
  have HZ := Lib.hid (szItemS n c A w (by omega))
  have HIm := Lib.hid (fun w' A1 c1 (hr : RdI w' w'.heap.size A1 n f) => implSortSortWhole A1 n c1 w'.heap.size f w' hn hr)
  obtain ⟨p, hP, hS⟩ : ∃ p : Nat → Nat, (∀ w' A1 c1, RdI w' w'.heap.size A1 n f → Calls Try.prog 17 #[.slice A1 n c1] w' (OutPI w' n f p)) ∧ ∀ w' A1 c1, RdI w' w'.heap.size A1 n f → Calls Try.prog 15 #[.slice A1 n c1] w' (fun e w2 => ∃ A2 c2, e = .returned (.slice A2 n c2) ∧ RdI w2 w2.heap.size A2 n (fun k => f (p k)) ∧ Below w'.heap.size w' w2) := by
    obtain ⟨k1, k2, k3⟩ := ranked (lexT_swo f) (fun i j (_ : i < n) (_ : j < n) => rfl)
    have hu := stableLex f (n := n) (by omega)
    exact ⟨stable (tabM (lexT f)) n (fun k => k), fun w' A1 c1 hr => (HIm.out w' A1 c1 hr).mono fun e w2 h => h.congr hu, fun w' A1 c1 hr => (specSortSortWhole A1 n c1 w'.heap.size f w' hn (Nat.le_refl _) hr _ (fun _ _ => rfl) k1 k2).mono fun e w2 h => h.rd (stable_perm (lexT f) n).1 k3⟩
  have HIm := Lib.hid hP
  have HSp := Lib.hid hS
  clear hP hS hrd hf64 hre hl
  by_cases hbig : 1048576 < n
  · rw [if_neg (by omega)] at HZ
    clear HT HIm HSp
    go_enter Try.func3, Try.ntmps3
    go_wp2_with fail
    refine HZ.out.mono ?_
    rintro e w1 ⟨rfl, rfl⟩
    go_wp2_with fail
    go_ret
    exact ⟨rfl, Below.refl _ _⟩
  · rw [if_pos (by omega)] at HZ
    have hbz : ¬ (1048576 - (n : Int) < 0) := by omega
    have hn20 : n ≤ 1048576 := by omega
    obtain ⟨mk, hmk⟩ : ∃ mk : Int, ((1 + n * 2 : Nat) : Int) = mk := ⟨_, rfl⟩
    have hmk0 : ¬ (mk < 0) := by omega
    have hmm : (mk != mk) = false := by simp
    have HMk := Lib.hid hmk; clear hmk
    go_enter Try.func3, Try.ntmps3
    go_wp2_with fail
    refine HZ.out.mono ?_
    rintro e w0 ⟨rfl, rfl⟩
    clear HZ
    -- w0 := spec(toItemS(aX))
    go_wp2_with fail
    refine (HT.out w0 (Below.refl _ _)).mono ?_
    rintro e w1 ⟨g1, rfl, hg1, hr1, hb1⟩
    have HC := Lib.hid (HSp.out w1 _ n (rdI_of_row hr1 (Nat.le_refl _) (fun i hi => ⟨cellI_even _ _, cellI_odd _ _⟩)))
    have HB := Lib.hid hb1
    clear hr1 hb1 hg1
    go_wp2_with fail
    refine HC.out.mono ?_
    rintro e w2 ⟨A2, c2, rfl, hr2, hb2⟩
    have HB2 := Lib.hid (HB.out.trans (hb2.mono HB.out.size))
    have HR2 := Lib.hid hr2
    clear HC hr2 hb2 HB
    -- x0 := toItemS(aX)
    go_wp2_with fail
    refine (HT.out w2 HB2.out).mono ?_
    rintro e w3 ⟨g3, rfl, hg3, hr3, hb3⟩
    have HC := Lib.hid (HIm.out w3 _ n (rdI_of_row hr3 (Nat.le_refl _) (fun i hi => ⟨cellI_even _ _, cellI_odd _ _⟩)))
    have HG3 := Lib.hid (And.intro hg3 hr3.lt)
    have HX3 : Hid (OwnRow w3 w2.heap.size 59 2 (.slice (some ⟨g3, 0, none⟩) n n) n (cellI f)) := Lib.hid (.inr ⟨g3, n, rfl, hg3, Nat.le_refl _, hr3⟩)
    have HB3 := Lib.hid (HB2.out.trans (hb3.mono HB2.out.size))
    have HR3 := Lib.hid (HR2.out.keep hb3 (Nat.le_refl _))
    have HS23 := Lib.hid hb3.size
    clear hr3 hb3 hg3 HR2
    -- g0 := impl(x0)
    go_wp2_with fail
    refine HC.out.mono ?_
    rintro e w4 ⟨v4, rfl, ⟨G4, hG4, hF4⟩, hb4⟩
    obtain ⟨A4, c4, rfl, hr4⟩ := hG4.rdI hF4
    have HO4 := Lib.hid (And.intro hG4 hF4)
    have HX4 := Lib.hid (HX3.out.keep hb4)
    have HB4 := Lib.hid (HB3.out.trans (hb4.mono HB3.out.size))
    have HR4 := Lib.hid (HR3.out.keep hb4 HS23.out)
    have HS34 := Lib.hid hb4.size
    have HE := Lib.hid (eqItemS n n c4 c2 A4 A2 _ _ w4 hnn hnn hr4 (HR4.out.more (Nat.le_trans HS23.out HS34.out)))
    clear hG4 hF4 hr4 hb4 HC HX3 HR3
    -- eqItemS(g0, w0)
    go_wp2_with fail
    refine HE.out.mono ?_
    rintro e w5 ⟨b5, rfl, hq5, hb5⟩
    obtain rfl : b5 = true := hq5.2 ⟨rfl, fun _ _ => rfl⟩
    have HO5 := Lib.hid (And.intro (HO4.out.1.keep hb5) HO4.out.2)
    have HX5 := Lib.hid (HX4.out.keep hb5)
    have HB5 := Lib.hid (HB4.out.trans (hb5.mono HB4.out.size))
    have HR5 := Lib.hid (HR4.out.keep hb5 (Nat.le_trans HS23.out HS34.out))
    have HS35 := Lib.hid (Nat.le_trans HS34.out hb5.size)
    clear hq5 hb5 HE HO4 HX4 HR4 HS34
    -- eqItemS(x0, toItemS(aX))
    go_wp2_with fail
    refine (HT.out w5 HB5.out).mono ?_
    rintro e w6 ⟨g6, rfl, hg6, hr6, hb6⟩
    have HO6 := Lib.hid (And.intro (HO5.out.1.keep hb6) HO5.out.2)
    have HX6 := Lib.hid (HX5.out.keep hb6)
    have HB6 := Lib.hid (HB5.out.trans (hb6.mono HB5.out.size))
    have HR6 := Lib.hid (HR5.out.keep hb6 (Nat.le_trans HS23.out HS35.out))
    have HS36 := Lib.hid (Nat.le_trans HS35.out hb6.size)
    obtain ⟨Ax, cx, hx, hrx⟩ := HX6.out.rdI (fun i _ => rfl)
    simp only [Value.slice.injEq] at hx
    obtain ⟨rfl, _, rfl⟩ := hx
    have HE := Lib.hid (eqItemS n n n n (some ⟨g3, 0, none⟩) (some ⟨g6, 0, none⟩) f f w6 hnn hnn hrx (rdI_of_row hr6 (Nat.le_refl _) (fun i hi => ⟨cellI_even _ _, cellI_odd _ _⟩)))
    clear hg6 hr6 hb6 HO5 HX5 HR5 HS35 hrx
    go_wp2_with fail
    refine HE.out.mono ?_
    rintro e w7 ⟨b7, rfl, hq7, hb7⟩
    obtain rfl : b7 = true := hq7.2 ⟨rfl, fun _ _ => rfl⟩
    have HO7 := Lib.hid (And.intro (HO6.out.1.keep hb7) HO6.out.2)
    have HX7 := Lib.hid (HX6.out.keep hb7)
    have HB7 := Lib.hid (HB6.out.trans (hb7.mono HB6.out.size))
    have HR7 := Lib.hid (HR6.out.keep hb7 (Nat.le_trans HS23.out HS36.out))
    have HS37 := Lib.hid (Nat.le_trans HS36.out hb7.size)
    have HC := Lib.hid (markItemS (.slice (some ⟨g3, 0, none⟩) n n) n w2.heap.size 1 (cellI f) w7 hn20 (by omega) HX7.out)
    clear hq7 hb7 HE HO6 HX6 HR6 HS36
    -- k = markItemS(x0, k)
    go_wp2_with fail
    refine HC.out.mono ?_
    rintro e w8 ⟨he8, _, ho8⟩
    obtain rfl : e = .returned (.int .i64 mk) := he8.trans (by rw [HMk.out])
    have HO8 := Lib.hid (And.intro (HO7.out.1.only ho8 (.inr fun q => by
      have h1 := HG3.out.2
      have h2 : w3.heap.size ≤ g3 := HO7.out.1.low q
      omega)) HO7.out.2)
    have HB8 := Lib.hid (HB7.out.trans (ho8.bel w0.heap.size (fun k hk => by
      simp only [Value.ownBlock, Option.some.injEq] at hk
      have := HG3.out.1; have := HB2.out.size; omega)))
    have HR8 := Lib.hid (HR7.out.keep (ho8.bel w2.heap.size (fun k hk => by
      simp only [Value.ownBlock, Option.some.injEq] at hk
      have := HG3.out.1; omega)) (Nat.le_refl _))
    have HS38 := Lib.hid (Nat.le_trans HS37.out (Nat.le_of_eq ho8.size.symm))
    obtain ⟨Ax, cx, hx, hrx⟩ := HO8.out.1.rdI HO8.out.2
    simp only [Value.slice.injEq] at hx
    obtain ⟨rfl, _, rfl⟩ := hx
    have HE := Lib.hid (eqItemS n n c4 c2 A4 A2 _ _ w8 hnn hnn hrx (HR8.out.more (Nat.le_trans HS23.out HS38.out)))
    clear he8 ho8 HC HO7 HX7 HR7 HS37 hrx
    -- k < 0 || !eqItemS(g0, w0)
    go_wp2_with fail
    refine HE.out.mono ?_
    rintro e w9 ⟨b9, rfl, hq9, hb9⟩
    obtain rfl : b9 = true := hq9.2 ⟨rfl, fun _ _ => rfl⟩
    have HO9 := Lib.hid (HO8.out.1.keep hb9)
    have HB9 := Lib.hid (HB8.out.trans (hb9.mono HB8.out.size))
    have HR9 := Lib.hid (HR8.out.keep hb9 (Nat.le_trans HS23.out HS38.out))
    have HS39 := Lib.hid (Nat.le_trans HS38.out hb9.size)
    have HC := Lib.hid (markItemS (.slice A4 n c4) n w3.heap.size 1 G4 w9 hn20 (by omega) HO9.out)
    clear hq9 hb9 HE HO8 HR8 HS38
    -- m = markItemS(g0, m)
    go_wp2_with fail
    refine HC.out.mono ?_
    rintro e w10 ⟨he10, ⟨F10, hO10, hF10⟩, ho10⟩
    obtain rfl : e = .returned (.int .i64 mk) := he10.trans (by rw [HMk.out])
    have HO10 := Lib.hid (And.intro hO10 hF10)
    have HB10 := Lib.hid (HB9.out.trans (ho10.bel w0.heap.size (fun k hk => by have := hO10.low hk; have := HB3.out.size; omega)))
    have HR10 := Lib.hid (HR9.out.keep (ho10.bel w2.heap.size (fun k hk => by have := hO10.low hk; have := HS23.out; omega)) (Nat.le_refl _))
    have HS310 := Lib.hid (Nat.le_trans HS39.out (Nat.le_of_eq ho10.size.symm))
    have HH := Lib.hid (heldItemS (.slice A4 n c4) n w3.heap.size 1 F10 w10 hn20 (by omega) hO10 hF10)
    clear he10 hO10 hF10 ho10 HC HO9 HR9 HS39
    -- q = heldItemS(g0, q)
    go_wp2_with fail
    refine HH.out.mono ?_
    rintro e w11 ⟨he11, rfl⟩
    obtain rfl : e = .returned (.int .i64 mk) := he11.trans (by rw [HMk.out])
    clear he11 HH
    -- h0 := impl(toItemS(aX))
    go_wp2_with fail
    refine (HT.out w10 HB10.out).mono ?_
    rintro e w12 ⟨g12, rfl, hg12, hr12, hb12⟩
    have HO12 := Lib.hid (And.intro (HO10.out.1.keep hb12) HO10.out.2)
    have HB12 := Lib.hid (HB10.out.trans (hb12.mono HB10.out.size))
    have HR12 := Lib.hid (HR10.out.keep hb12 (Nat.le_trans HS23.out HS310.out))
    have HS312 := Lib.hid (Nat.le_trans HS310.out hb12.size)
    have HC := Lib.hid (HIm.out w12 _ n (rdI_of_row hr12 (Nat.le_refl _) (fun i hi => ⟨cellI_even _ _, cellI_odd _ _⟩)))
    clear hg12 hr12 hb12 HO10 HR10 HS310
    go_wp2_with fail
    refine HC.out.mono ?_
    rintro e w13 ⟨v13, rfl, ⟨G13, hG13, hF13⟩, hb13⟩
    obtain ⟨A13, c13, rfl, hr13⟩ := hG13.rdI hF13
    have HO13 := Lib.hid (And.intro (HO12.out.1.keep hb13) HO12.out.2)
    have HB13 := Lib.hid (HB12.out.trans (hb13.mono HB12.out.size))
    have HR13 := Lib.hid (HR12.out.keep hb13 (Nat.le_trans HS23.out HS312.out))
    have HS313 := Lib.hid (Nat.le_trans HS312.out hb13.size)
    have HE := Lib.hid (eqItemS n n c13 c2 A13 A2 _ _ w13 hnn hnn hr13 (HR13.out.more (Nat.le_trans HS23.out HS313.out)))
    clear hG13 hF13 hr13 hb13 HC HO12 HR12 HS312
    -- eqItemS(h0, w0)
    go_wp2_with fail
    refine HE.out.mono ?_
    rintro e w14 ⟨b14, rfl, hq14, hb14⟩
    obtain rfl : b14 = true := hq14.2 ⟨rfl, fun _ _ => rfl⟩
    have HO14 := Lib.hid (And.intro (HO13.out.1.keep hb14) HO13.out.2)
    have HB14 := Lib.hid (HB13.out.trans (hb14.mono HB13.out.size))
    have HH := Lib.hid (heldItemS (.slice A4 n c4) n w3.heap.size 1 F10 w14 hn20 (by omega) HO14.out.1 HO14.out.2)
    clear hq14 hb14 HE HO13 HR13 HS313
    go_wp2_with fail
    refine HH.out.mono ?_
    rintro e w15 ⟨he15, rfl⟩
    obtain rfl : e = .returned (.int .i64 mk) := he15.trans (by rw [HMk.out])
    clear he15 HH
    go_wp2_with fail
    go_ret
    exact ⟨rfl, HB14.out⟩
end Go.Proofs.Ytkklbnheiganlaa
