/-
  The walks of the laws FnWholeSortsAgree and FnOrderOfMixed.
-/
import Derived.Test.YtkklbnheiganlaaPqF
import Derived.Test.YtkklbnheiganlaaPlR
import Derived.Test.YtkklbnheiganlaaPqS
namespace Go.Proofs.Ytkklbnheiganlaa
open Go.RowKit Go.Proofs
set_option linter.unusedVariables false

set_option maxHeartbeats 2000000 in
theorem fnWholeSortsAgreew (w : World) (A : Option Addr) (n c : Nat) (f : Nat → Int × Int) (hf64 : ∀ i, I64 (f i).1 ∧ I64 (f i).2) (hl : n ≤ c) (hre : c * 16 ≤ 140737488351232) (hrd : RdI w w.heap.size A n f) :
    Calls Try.prog 11 #[.slice A n c] w fun e w' => e = .returned (.bool true) ∧ Below w.heap.size w w' := by
  have hn : n * 16 ≤ 140737488351232 := by omega
  have hnn : n ≤ 4611686018427387903 := by omega
  have HT := Lib.hid (toItems A n c w.heap.size f w hn (Nat.le_refl _) hrd)
  have HSo := Lib.hid (fun w' B1 A1 c1 (hr : RdI w' B1 A1 n f) => implSortSortWhole A1 n c1 B1 f w' hn hr)
  have HSw := Lib.hid (fun w' A1 c1 (hr : RdI w' w'.heap.size A1 n f) => implSortWhole A1 n c1 w'.heap.size f w' hn hr)
  have HF := Lib.hid (fun g => sortLex_unique f g (n := n) (by omega))
  clear hrd hf64 hre hl
  generalize sortP (lexT f) n = s at *
  go_enter Try.func11, Try.ntmps11
  go_wp2_with fail
  refine HT.out.mono ?_
  rintro e w1 ⟨A1, c1, rfl, hr1, hb1⟩
  have HC := Lib.hid (HSw.out w1 A1 c1 hr1)
  have HR1 := Lib.hid hr1
  have HB1 := Lib.hid hb1
  clear hr1 hb1
  go_wp2_with fail
  refine HC.out.mono ?_
  rintro e w2 ⟨A2, c2, g, rfl, hr2, hb2, hc2, hs2⟩
  have HR2 := Lib.hid hr2
  have HG := Lib.hid (HF.out g (fun i j hij hj => by unfold lexL; rw [hs2 i j hij hj]; rfl) (fun x => hc2 (fun y => decide (y = x))))
  have HC2 := Lib.hid (HSo.out w2 _ A1 c1 (HR1.out.keep hb2 (Nat.le_refl _)))
  have HB2 := Lib.hid (HB1.out.trans (hb2.mono HB1.out.size))
  clear hr2 hb2 hc2 hs2 HC HB1 HR1 HF
  have hne : ((n : Int) == (n : Int)) = true := by simp
  go_wp2_with fail
  refine HC2.out.mono ?_
  intro e w3 h3
  obtain ⟨A3, c3, rfl, hr3, hb3⟩ := h3.rd
  have HE := Lib.hid (sameItems n n c2 c3 A2 A3 _ _ w3 _ _ hnn hnn (HR2.out.keep hb3 (Nat.le_refl _)) hr3)
  have HB3 := Lib.hid (HB2.out.trans (hb3.mono HB2.out.size))
  clear hr3 hb3 h3 HC2 HB2 HR2
  go_wp2_with fail
  refine HE.out.mono ?_
  rintro e w4 ⟨b4, rfl, hb4, q4, rfl⟩
  obtain rfl : b4 = true := hb4.2 ⟨rfl, fun i hi => HG.out i hi⟩
  clear hb4
  go_wp2_with fail
  go_ret
  exact ⟨rfl, below_drewN HB3.out q4⟩

theorem OutS.rd {r : Int → Int → Bool} {w w' : World} {n : Nat} {f : Nat → Int} {e : Ending} (h : OutS r w n f e w') : ∃ A c g, e = .returned (.slice A n c) ∧ Rd w' w'.heap.size (Value.int .i64) A n g ∧ Below w.heap.size w w' ∧ (∀ q : Int → Bool, cnt (fun k => q (g k)) n = cnt (fun k => q (f k)) n) ∧ ∀ i j, i < j → j < n → r (g j) (g i) = false := by
  obtain ⟨p, hp, hc, hs, v, rfl, ⟨G, hG, hF⟩, hb⟩ := h
  obtain ⟨A, c, rfl, hr⟩ := hG.rd (enc := Value.int .i64) (f := fun k => f (p k)) hF
  exact ⟨A, c, fun k => f (p k), rfl, hr, hb, fun q => hc (fun k => q (f k)), hs⟩
/-- impl.SortSortByOrder by a strict weak order: the same. -/
theorem implSortSortByOrderS (sz : Int) (A : Option Addr) (m c B : Nat) (gb : Nat → Bool) (A' : Option Addr) (n c' B' : Nat) (f : Nat → Int) (w : World) (hsz : I64 sz) (hm : m ≤ 140737488351232) (hB : B ≤ w.heap.size) (hrd : Rd w B Value.bool A m gb)
    (hf64 : ∀ i, I64 (f i)) (hn : n * 8 ≤ 140737488351232) (hB' : B' ≤ w.heap.size) (hrd' : Rd w B' (Value.int .i64) A' n f) (hW : WeakP (relB sz m gb) f n) :
    Calls Try.prog 24 #[.slice A' n c', .agg #[.int .i64 sz, .slice A m c]] w (OutS (relB sz m gb) w n f) := by
  obtain ⟨T, hS, hT⟩ := swo_of_weak hW
  exact (implSortSortByOrder sz A m c B gb A' n c' B' f T w hsz hm hB hrd hf64 hn hB' hrd' hT).mono fun e w' h => ⟨sortP T n, sortP_perm T n, sortP_count T n, fun i j hij hj => by
    have h1 := sortP_sorted hS (show n < 18446744073709551616 by omega) hij hj
    rw [hT _ _ (sortP_in T hj) (sortP_in T (Nat.lt_trans hij hj))] at h1
    exact h1, h⟩

theorem OutMix.rd64 {w w' : World} {n : Nat} {f : Nat → Int} {e : Ending} (h : OutMix w n f e w') (hf : ∀ i, I64 (f i)) :
    ∃ A c g, e = .returned (.slice A n c) ∧ Rd w' w'.heap.size (Value.int .i64) A n g ∧ Below w.heap.size w w' ∧ (∀ q : Int → Bool, cnt (fun k => q (g k)) n = cnt (fun k => q (f k)) n) ∧ ∀ i, I64 (g i) := by
  obtain ⟨h, hc, hout⟩ := h
  obtain ⟨A, c, rfl, hr, hb⟩ := hout.rd
  refine ⟨A, c, fun k => if k < n then h k else 0, rfl, fun hn => ?_, hb, fun q => ?_, fun i => ?_⟩
  · obtain ⟨b, off, hA, hlt, hcell⟩ := hr hn
    exact ⟨b, off, hA, hlt, fun i hi => by dsimp only; rw [if_pos hi]; exact hcell i hi⟩
  · rw [← hc q]; exact cnt_congr fun k hk => by dsimp only; rw [if_pos hk]
  · by_cases hi : i < n
    · obtain ⟨j, hj, e⟩ := from_cnt hc hi
      dsimp only
      rw [if_pos hi, ← e]
      exact hf j
    · dsimp only
      rw [if_neg hi]
      exact i64_zero

set_option maxRecDepth 100000 in
set_option maxHeartbeats 4000000 in
theorem fnOrderOfMixedw (w : World) (A' : Option Addr) (n c' : Nat) (f : Nat → Int) (hf64 : ∀ i, I64 (f i)) (hl : n ≤ c') (hre : c' * 8 ≤ 140737488351232) (hrd' : Rd w w.heap.size (Value.int .i64) A' n f)
    (sz : Int) (A : Option Addr) (m c : Nat) (g : Nat → Bool) (hsz : I64 sz) (hlm : m ≤ c) (hrm : c ≤ 140737488351232) (hrd : Rd w w.heap.size Value.bool A m g)
    (Ap : Option Addr) (mp cp : Nat) (fp : Nat → Int × Int) (hp64 : ∀ i, I64 (fp i).1 ∧ I64 (fp i).2) (hlp : mp ≤ cp) (hrp : cp * 16 ≤ 140737488351232) (hrdp : RdI w w.heap.size Ap mp fp) :
    Calls Try.prog 13 #[.slice A' n c', .agg #[.int .i64 sz, .slice A m c], .slice Ap mp cp] w fun e w' => e = .returned (.bool true) ∧ Below w.heap.size w w' := by
  have hm : m ≤ 140737488351232 := by omega
  have hn : n * 8 ≤ 140737488351232 := by omega
  have hnn : n ≤ 4611686018427387903 := by omega
  have HW := Lib.hid (fun w' (hb : Below w.heap.size w w') => weak sz A m c w.heap.size g A' n c' w.heap.size f w' hsz hm hb.size (hrd.keep hb (Nat.le_refl _)) hf64 hnn hb.size (hrd'.keep hb (Nat.le_refl _)))
  have HSt := Lib.hid (fun w' (hb : Below w.heap.size w w') => strictly sz A m c w.heap.size g A' n c' w.heap.size f w' hsz hm hb.size (hrd.keep hb (Nat.le_refl _)) hf64 hnn hl (by omega) hb.size (hrd'.keep hb (Nat.le_refl _)))
  have HTp := Lib.hid (fun w' (hb : Below w.heap.size w w') => toParts Ap mp cp w.heap.size fp w' (by omega) hb.size (hrdp.keep hb (Nat.le_refl _)))
  have HRv := Lib.hid (fun w' A1 c1 (hb : Below w.heap.size w w') (hr : RdI w' w'.heap.size A1 mp fp) => implReverseParts A' n c' w.heap.size f A1 mp c1 w'.heap.size fp w' hn (by omega) (hrd'.keep hb (Nat.le_refl _)) (Nat.le_refl _) hr hp64)
  have HT := Lib.hid (fun w' (hb : Below w.heap.size w w') => toOrder sz A m c w.heap.size g w' hm hb.size (hrd.keep hb (Nat.le_refl _)))
  have HI := Lib.hid (fun (hW : WeakP (relB sz m g) f n) w' A1 c1 (hb : Below w.heap.size w w') (hr : Rd w' w'.heap.size Value.bool A1 m g) => implSortByOrder sz A1 m c1 w'.heap.size g A' n c' w.heap.size f w' hsz hm (Nat.le_refl _) hr hf64 hn hb.size (hrd'.keep hb (Nat.le_refl _)) hW)
  have HJ := Lib.hid (fun (hW : WeakP (relB sz m g) f n) w' A1 c1 (hb : Below w.heap.size w w') (hr : Rd w' w'.heap.size Value.bool A1 m g) => implSortSortByOrderS sz A1 m c1 w'.heap.size g A' n c' w.heap.size f w' hsz hm (Nat.le_refl _) hr hf64 hn hb.size (hrd'.keep hb (Nat.le_refl _)) hW)
  have HIm := Lib.hid (fun (h : Nat → Int) (h64 : ∀ i, I64 (h i)) (hW : WeakP (relB sz m g) h n) w' A1 c1 A2 c2 B2 (hB2 : B2 ≤ w'.heap.size) (hr2 : Rd w' B2 (Value.int .i64) A2 n h) (hr : Rd w' w'.heap.size Value.bool A1 m g) => implSortByOrder sz A1 m c1 w'.heap.size g A2 n c2 B2 h w' hsz hm (Nat.le_refl _) hr h64 hn hB2 hr2 hW)
  have HJm := Lib.hid (fun (h : Nat → Int) (h64 : ∀ i, I64 (h i)) (hW : WeakP (relB sz m g) h n) w' A1 c1 A2 c2 B2 (hB2 : B2 ≤ w'.heap.size) (hr2 : Rd w' B2 (Value.int .i64) A2 n h) (hr : Rd w' w'.heap.size Value.bool A1 m g) => implSortSortByOrderS sz A1 m c1 w'.heap.size g A2 n c2 B2 h w' hsz hm (Nat.le_refl _) hr h64 hn hB2 hr2 hW)
  have H64 := Lib.hid hf64
  have H0 := Lib.hid (BoxInv.first w sz A m c 33)
  clear hrd hrd' hf64 hre hl hlm hrm hsz hp64 hlp hrp hrdp
  generalize relB sz m g = r at *
  go_enter Try.func13, Try.ntmps13
  go_wp2_with fail
  refine (HW.out _ H0.out.bel).mono ?_
  rintro e w1 ⟨bw, rfl, hbw, hb1⟩
  have H1 := Lib.hid (H0.out.step hb1)
  have p0 := H1.out.c0
  have p1 := H1.out.c1
  clear hb1 H0
  cases bw
  · clear hbw
    go_wp2_with fail
    go_ret
    exact ⟨rfl, H1.out.bel⟩
  · have HWk := Lib.hid (hbw.1 rfl)
    clear hbw
    go_wp2_with fail
    refine (HSt.out _ H1.out.bel).mono ?_
    rintro e w2 ⟨bs, rfl, hbs, hb2⟩
    have H2 := Lib.hid (H1.out.step hb2)
    clear hb2 H1 p0 p1
    have p0 := H2.out.c0
    have p1 := H2.out.c1
    cases bs
    · clear hbs
      go_wp2_with fail
      go_ret
      exact ⟨rfl, H2.out.bel⟩
    · have HSk := Lib.hid (hbs.1 rfl)
      clear hbs
      go_wp2_with fail
      refine (HTp.out _ H2.out.bel).mono ?_
      rintro e w3 ⟨A3, c3, rfl, hr3, hb3⟩
      have H3 := Lib.hid (H2.out.step hb3)
      have HC3 := Lib.hid (HRv.out w3 A3 c3 H3.out.bel hr3)
      clear hr3 hb3
      go_wp2_with fail
      refine HC3.out.mono ?_
      intro e w4 hout
      obtain ⟨Am, cm, h, rfl, hrm, hb4, hcm, hm64⟩ := hout.rd64 H64.out
      have H4 := Lib.hid (H3.out.step hb4)
      have HM := Lib.hid (And.intro hcm (And.intro hm64 (weak_cnt HWk.out hcm)))
      have HB : Hid (BoxInv w sz A m c w4.drew) := Lib.hid (H4.out.drewN 1)
      have HRm : Hid (Rd w4.drew w4.heap.size (Value.int .i64) Am n h ∧ w4.heap.size ≤ w4.drew.heap.size) := Lib.hid ⟨hrm, Nat.le_refl _⟩
      clear hb4 hcm hrm hout HC3 p0 p1 hm64
      have p0 := H4.out.c0
      have p1 := H4.out.c1
      go_wp2_with fail
      go_region_held3 (fun w' => w'.cell? ⟨w.heap.size, 0, none⟩ = some (.int .i64 sz) ∧ w'.cell? ⟨w.heap.size, 1, none⟩ = some (.slice A m c))
        (go_keep)
        (first
          | (go_at_call 22; refine (HT.out _ HB.out.bel).mono ?_; rintro e w5 ⟨A1, c1, rfl, hr1, hb5⟩; have HB := Lib.hid (HB.out.step hb5); have HR1 := Lib.hid hr1; have HBB := Lib.hid hb5; have HRm := Lib.hid (And.intro (HRm.out.1.keep hb5 HRm.out.2) (Nat.le_trans HRm.out.2 hb5.size)); have q0 := HB.out.c0; have q1 := HB.out.c1; clear hb5 hr1)
          | (go_at_call 44; refine (HI.out HWk.out _ A1 c1 HB.out.bel HR1.out).mono ?_; intro e w6 h6; obtain ⟨Ay, cy, gy, rfl, hry, hb6, hcy, hsy⟩ := h6.rd; have HB := Lib.hid (HB.out.step hb6); have HRy := Lib.hid hry; have HY := Lib.hid (And.intro hcy hsy); have HRm := Lib.hid (And.intro (HRm.out.1.keep hb6 HRm.out.2) (Nat.le_trans HRm.out.2 hb6.size)); have q0 := HB.out.c0; have q1 := HB.out.c1; clear hb6 hry hcy hsy h6)
          | (go_at_call 24; refine (HJ.out HWk.out _ A1 c1 HB.out.bel HR1.out).mono ?_; intro e w7 h7; obtain ⟨Az, cz, gz, rfl, hrz, hb7, hcz, hsz7⟩ := h7.rd; have HRy := Lib.hid (And.intro ((HRy.out.keep HBB.out (Nat.le_refl _)).keep hb7 HBB.out.size) (Nat.le_trans HBB.out.size hb7.size)); have HB := Lib.hid (HB.out.step hb7); have HRz := Lib.hid hrz; have HZ := Lib.hid (And.intro hcz hsz7); have HRm := Lib.hid (And.intro (HRm.out.1.keep hb7 HRm.out.2) (Nat.le_trans HRm.out.2 hb7.size)); have q0 := HB.out.c0; have q1 := HB.out.c1; clear hb7 hrz hcz hsz7 h7))
      have hne : ((n : Int) == (n : Int)) = true := by simp
      have HE := Lib.hid (sameInts n n cy cz Ay Az gy gz _ _ _ hnn hnn HRy.out.1 HRz.out)
      go_wp2_with fail
      refine HE.out.mono ?_
      rintro e w8 ⟨b8, rfl, hb8, q8, rfl⟩
      obtain rfl : b8 = true := hb8.2 ⟨rfl, order_unique HWk.out HSk.out HY.out.1 HZ.out.1 HY.out.2 HZ.out.2⟩
      have HB8 := Lib.hid (HB.out.drewN q8)
      clear hb8
      have s0 := HB8.out.c0
      have s1 := HB8.out.c1
      go_wp2_with fail
      refine (HT.out _ HB8.out.bel).mono ?_
      rintro e w9 ⟨A9, c9, rfl, hr9, hb9⟩
      have HB9 := Lib.hid (HB8.out.step hb9)
      have HRm9 := Lib.hid (And.intro ((HRm.out.1.drewN q8).keep hb9 HRm.out.2) (Nat.le_trans HRm.out.2 hb9.size))
      have HRy9 := Lib.hid (And.intro ((HRy.out.1.drewN q8).keep hb9 HRy.out.2) (Nat.le_trans HRy.out.2 hb9.size))
      have HRz9 := Lib.hid (And.intro ((HRz.out.drewN q8).keep hb9 (Nat.le_refl _)) hb9.size)
      have HC9 := Lib.hid (HIm.out h HM.out.2.1 HM.out.2.2 w9 A9 c9 Am cm _ HRm9.out.2 HRm9.out.1 hr9)
      clear hr9 hb9 HRm HRy HRz
      go_wp2_with fail
      refine HC9.out.mono ?_
      intro e w10 h10
      obtain ⟨Au, cu, gu, rfl, hru, hb10, hcu, hsu⟩ := h10.rd
      have HB10 := Lib.hid (HB9.out.step hb10)
      have HU := Lib.hid (order_unique HWk.out HSk.out (fun q => (hcu q).trans (HM.out.1 q)) HY.out.1 hsu HY.out.2)
      have HRm10 := Lib.hid (And.intro (HRm9.out.1.keep hb10 HRm9.out.2) (Nat.le_trans HRm9.out.2 hb10.size))
      have HRz10 := Lib.hid (And.intro (HRz9.out.1.keep hb10 HRz9.out.2) (Nat.le_trans HRz9.out.2 hb10.size))
      have HE10 := Lib.hid (sameInts n n cu cy Au Ay gu gy w10 _ _ hnn hnn hru (HRy9.out.1.keep hb10 HRy9.out.2))
      clear hru hb10 hcu hsu h10 HC9 HRy9 HRm9 HRz9
      go_wp2_with fail
      refine HE10.out.mono ?_
      rintro e w11 ⟨b11, rfl, hb11, q11, rfl⟩
      obtain rfl : b11 = true := hb11.2 ⟨rfl, HU.out⟩
      have HB11 := Lib.hid (HB10.out.drewN q11)
      clear hb11 HE10 s0 s1
      have s0 := HB11.out.c0
      have s1 := HB11.out.c1
      go_wp2_with fail
      refine (HT.out _ HB11.out.bel).mono ?_
      rintro e w12 ⟨A12, c12, rfl, hr12, hb12⟩
      have HB12 := Lib.hid (HB11.out.step hb12)
      have HRm12 := Lib.hid (And.intro ((HRm10.out.1.drewN q11).keep hb12 HRm10.out.2) (Nat.le_trans HRm10.out.2 hb12.size))
      have HRz12 := Lib.hid (And.intro ((HRz10.out.1.drewN q11).keep hb12 HRz10.out.2) (Nat.le_trans HRz10.out.2 hb12.size))
      have HC12 := Lib.hid (HJm.out h HM.out.2.1 HM.out.2.2 w12 A12 c12 Am cm _ HRm12.out.2 HRm12.out.1 hr12)
      clear hr12 hb12 HRm10 HRz10
      go_wp2_with fail
      refine HC12.out.mono ?_
      intro e w13 h13
      obtain ⟨Av, cv, gv, rfl, hrv, hb13, hcv, hsv⟩ := h13.rd
      have HB13 := Lib.hid (HB12.out.step hb13)
      have HV := Lib.hid (order_unique HWk.out HSk.out (fun q => (hcv q).trans (HM.out.1 q)) HZ.out.1 hsv HZ.out.2)
      have HE13 := Lib.hid (sameInts n n cv cz Av Az gv gz w13 _ _ hnn hnn hrv (HRz12.out.1.keep hb13 HRz12.out.2))
      clear hrv hb13 hcv hsv h13 HC12 HRz12 HRm12
      go_wp2_with fail
      refine HE13.out.mono ?_
      rintro e w14 ⟨b14, rfl, hb14, q14, rfl⟩
      obtain rfl : b14 = true := hb14.2 ⟨rfl, HV.out⟩
      clear hb14
      go_wp2_with fail
      go_ret
      exact ⟨rfl, below_drewN HB13.out.bel q14⟩
end Go.Proofs.Ytkklbnheiganlaa
