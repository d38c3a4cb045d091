/-
  slices.IsSortedFunc at items; lists in order by a strict weak order; the walks of the laws FnIsSortedItems and FnIsSortedOfOrder.
-/
import Derived.Test.YtjammaglboehcaaPqL5
import Derived.Test.YtjammaglboehcaaIsOL
import Derived.Deep.RegionHeld3
namespace Go.Proofs.Ytjammaglboehcaa
open Go.RowKit Go.Proofs
set_option linter.unusedVariables false

set_option maxHeartbeats 1000000 in
set_option maxRecDepth 100000 in
theorem isSortedFuncT (g : Nat) (cb : Array Value) (A : Option Addr) (n c B : Nat) (f : Nat → Int × Int) (cm : Nat → Nat → Int) (R : World → Prop) (w : World) (hn : n ≤ 4611686018427387903)
    (eg : ∀ args w, (callFunc g args).run Try.prog w = .ok (.enter g args) w)
    (hf : ∀ w i j, i < n → j < n → R w → Calls Try.prog g (#[.agg #[.int .i64 (f i).1, .int .i64 (f i).2], .agg #[.int .i64 (f j).1, .int .i64 (f j).2]] ++ cb) w fun e w' => e = .returned (.int .i64 (cm i j)) ∧ R w')
    (hq : ∀ w q, R w → R (w.drewN q)) (hrd : ∀ w, R w → RdI w B A n f) (h0 : R w) :
    Calls Try.prog 52 #[.slice A n c, .func (.func g) #[] cb] w (TellsR (AscC cm n) R) := by
  have H0 := Lib.hid h0; have HQ := Lib.hid hq; have HL := Lib.hid hf; have HR := Lib.hid hrd; clear h0 hq hf hrd
  go_enter Try.func52, Try.ntmps52
  go_wp2_with fail
  go_loopw [5] (fun vi wr => ∃ k : Nat, k ≤ n ∧ vi = .int .i64 ((k : Int) - 1) ∧ Hid (R wr ∧ ∀ i, 1 ≤ i → k ≤ i → i < n → 0 ≤ cm i (i - 1))) (fun vi _ => (intOf vi).toNat)
  case atStart => exact ⟨n, Nat.le_refl _, rfl, H0.out, fun i h1 h2 h3 => absurd h3 (by omega)⟩
  case round =>
    obtain ⟨k, hk, rfl, HI⟩ := hrel
    by_cases hlt : 2 ≤ k
    · obtain ⟨j, rfl⟩ : ∃ j, k = j + 2 := ⟨k - 2, by omega⟩
      rw [show ((j + 2 : Nat) : Int) - 1 = ((j + 1 : Nat) : Int) by omega]
      have hc := HL.out (wr.drewN 1) (j + 1) j (by omega) (by omega) (HQ.out _ 1 HI.out.1)
      have hpos : ((j + 1 : Nat) : Int) > 0 := by omega
      obtain ⟨b, off, rfl, _, hx, hx2⟩ := (HR.out _ HI.out.1).at (show j + 1 < n by omega)
      obtain ⟨b2, off2, hA2, _, hy, hy2⟩ := (HR.out _ HI.out.1).at (show j < n by omega)
      simp only [Option.some.injEq, Addr.mk.injEq, and_true] at hA2
      obtain ⟨rfl, rfl⟩ := hA2
      have hj1n : j + 1 < n := by omega
      have hj10 : 1 ≤ j + 1 := by omega
      have hwr : IntKind.i64.wrap (((j + 1 : Nat) : Int) - 1) = ((j + 1 : Nat) : Int) - 1 := IntWalk.i64_in _ (by omega)
      have hto : (((j + 1 : Nat) : Int) - 1).toNat = j := by omega
      have hb1 : ((j + 1 : Nat) : Int) < (n : Int) := by omega
      have hb2 : 0 ≤ ((j + 1 : Nat) : Int) - 1 := by omega
      have hb3 : ((j + 1 : Nat) : Int) - 1 < (n : Int) := by omega
      have hb4 : (1 : Int) ≤ ((j + 1 : Nat) : Int) := by omega
      have hnat : j + 1 - 1 = j := by omega
      generalize hj1 : j + 1 = j1 at *
      have HJ := Lib.hid hj1; clear hj1
      generalize (f j1).1 = u1 at *
      generalize (f j1).2 = u2 at *
      generalize (f j).1 = z1 at *
      generalize (f j).2 = z2 at *
      generalize hv : cm j1 j = v at hc
      have HC := Lib.hid hc; have HV := Lib.hid hv; clear hc hv
      by_cases hneg : v < 0
      · have hd : decide (v < 0) = true := decide_eq_true hneg
        go_wp2_with fail
        go_still_tail 10, (by kernel_rfl)
        change wpList _ _ _ _ _ (wr.drewN 1)
        go_wp2_with fail
        refine HC.out.mono ?_
        rintro e w2 ⟨rfl, hR2⟩
        have HR2 := Lib.hid hR2; clear hR2
        go_wp2_with fail
        go_ret
        exact ⟨false, rfl, ⟨(fun h => by cases h), (fun h => by have := h j1 (by omega) (by omega); rw [show j1 - 1 = j by have := HJ.out; omega, HV.out] at this; omega)⟩, HR2.out⟩
      · have hd : decide (v < 0) = false := decide_eq_false hneg
        go_wp2_with fail
        go_still_tail 10, (by kernel_rfl)
        change wpList _ _ _ _ _ (wr.drewN 1)
        go_wp2_with fail
        refine HC.out.mono ?_
        rintro e w2 ⟨rfl, hR2⟩
        have HR2 := Lib.hid hR2; clear hR2
        go_wp2_with fail
        go_roundw
        case rel => exact ⟨j1, by omega, by go_num, HR2.out, fun i a b c => by
          rcases Nat.lt_or_ge i (j + 2) with h | h
          · obtain rfl : i = j1 := by have := HJ.out; omega
            rw [show i - 1 = j by have := HJ.out; omega, HV.out]; omega
          · exact HI.out.2 i a h c⟩
        case measure => simp [intOf]; omega
    · have hle : ¬ ((k : Int) - 1 > 0) := by omega
      go_wp2_with fail
      go_ret
      exact ⟨true, rfl, ⟨fun _ => fun i a b => HI.out.2 i a (by omega) b, fun _ => rfl⟩, HI.out.1⟩

set_option maxHeartbeats 1000000 in
theorem implIsSortedItems (n c : Nat) (A : Option Addr) (f : Nat → Int × Int) (w : World) (B : Nat) (hB : B ≤ w.heap.size) (hn : n ≤ 4611686018427387903) (hrd : RdI w B A n f) :
    Calls Try.prog 26 #[.slice A n c] w (TellsB (AscF (fun k => (f k).1) n) w) := by
  have hS := isSortedFuncT 36 #[] A n c B f (fun i j => cmpI (f i).1 (f j).1) (Below w.heap.size w) w hn byKey_en
    (fun w' i j hi hj hI => (byKey (f i) (f j) w').mono fun e w2 h => ⟨h.1, hI.trans (h.2.mono hI.size)⟩)
    (fun w' q hI => below_drewN hI q) (fun w' hI => hrd.keep hI hB) (Below.refl _ _)
  have HS := Lib.hid hS
  clear hS hrd
  go_enter Try.func26, Try.ntmps26
  go_wp2_with fail
  refine HS.out.mono ?_
  rintro e w1 ⟨b, rfl, hb, hb1⟩
  have HB := Lib.hid (And.intro hb hb1); clear hb hb1
  go_wp2_with fail
  go_ret
  refine ⟨b, rfl, HB.out.1.trans ?_, HB.out.2⟩
  constructor
  · intro h i h1 h2
    have : 0 ≤ cmpI (f i).1 (f (i - 1)).1 := h i h1 h2
    have h3 := cmpI_neg (f i).1 (f (i - 1)).1
    rw [decide_eq_false (show ¬ cmpI (f i).1 (f (i - 1)).1 < 0 by omega)] at h3
    have := of_decide_eq_false h3.symm
    show (f (i - 1)).1 ≤ (f i).1
    omega
  · intro h i h1 h2
    have h4 : (f (i - 1)).1 ≤ (f i).1 := h i h1 h2
    have h3 := cmpI_neg (f i).1 (f (i - 1)).1
    rw [decide_eq_false (show ¬ (f i).1 < (f (i - 1)).1 by omega)] at h3
    have := of_decide_eq_false h3
    show 0 ≤ cmpI (f i).1 (f (i - 1)).1
    omega

/-- A stable sort by keys leaves a list as it is if and only if its keys are in ascending order. -/
theorem stable_is (f : Nat → Int × Int) (n : Nat) : (∀ i, i < n → f (stable (tabM (keyT f)) n (fun k => k) i) = f i) ↔ AscF (fun k => (f k).1) n := by
  constructor
  · intro h i h1 h2
    show (f (i - 1)).1 ≤ (f i).1
    rw [← h i h2, ← h (i - 1) (by omega)]
    rcases stable_ord (keyT_swo f) n (i - 1) i (Nat.zero_le _) (by omega) h2 with g | ⟨g, _⟩
    · rw [keyT_yes] at g; omega
    · rw [keyT_no] at g; exact g
  · intro h i hi
    rw [stable_stays (keyT_swo f) (ord_of_asc h) i hi]

set_option maxRecDepth 100000 in
set_option maxHeartbeats 4000000 in
theorem fnIsSortedItemsw (w : World) (A : Option Addr) (n c : Nat) (f : Nat → Int × Int) (hf64 : ∀ i, I64 (f i).1 ∧ I64 (f i).2) (hl : n ≤ c) (hre : c * 16 ≤ 140737488351232) (hrd : RdI w w.heap.size A n f) :
    Calls Try.prog 6 #[.slice A n c] w fun e w' => e = .returned (.bool true) ∧ Below w.heap.size w w' := by
  have hn : n * 16 ≤ 140737488351232 := by omega
  have hnn : n ≤ 4611686018427387903 := by omega
  have HT := Lib.hid (toItems A n c w.heap.size f w hn (Nat.le_refl _) hrd)
  have HSt := Lib.hid (fun w' A1 c1 (hr : RdI w' w'.heap.size A1 n f) => implStableItems A1 n c1 w'.heap.size f w' hn hr)
  have HSi := Lib.hid (fun w' B1 A1 c1 (hr : RdI w' B1 A1 n f) => implSortItems A1 n c1 B1 f w' hn hr)
  have HSs := Lib.hid (fun w' B1 A1 c1 (hr : RdI w' B1 A1 n f) => implSortSortItems A1 n c1 B1 f w' hn hr)
  have HF := Lib.hid (And.intro (stable_is f n) (sortKey_asc f (n := n) (by omega)))
  clear hrd hf64 hre hl
  generalize stable (tabM (keyT f)) n (fun k => k) = p at *
  generalize sortP (keyT f) n = s at *
  go_enter Try.func6, Try.ntmps6
  go_wp2_with fail
  refine HT.out.mono ?_
  rintro e w1 ⟨A1, c1, rfl, hr1, hb1⟩
  have HC := Lib.hid (HSt.out w1 A1 c1 hr1)
  have HI := Lib.hid hr1
  have HB := Lib.hid hb1
  clear hr1 hb1
  go_wp2_with fail
  refine HC.out.mono ?_
  intro e w2 h2
  obtain ⟨A2, c2, rfl, hr, hb⟩ := h2.rd
  have HE := Lib.hid (sameItems n n c2 c1 A2 A1 _ f w2 _ _ hnn hnn hr (HI.out.keep hb (Nat.le_refl _)))
  have HI := Lib.hid (And.intro (HI.out.keep hb (Nat.le_refl _)) hb.size)
  have HB := Lib.hid (HB.out.trans (hb.mono HB.out.size))
  clear hr hb h2 HC
  go_wp2_with fail
  refine HE.out.mono ?_
  rintro e w3 ⟨bi, rfl, hbi, q, rfl⟩
  have HX : Hid (bi = true ↔ AscF (fun k => (f k).1) n) := Lib.hid (hbi.trans (by rw [← HF.out.1]; exact ⟨fun h => h.2, fun h => ⟨rfl, h⟩⟩))
  have HI := Lib.hid (And.intro (HI.out.1.drewN q) HI.out.2)
  have HB := Lib.hid (below_drewN HB.out q)
  have HC := Lib.hid (implIsSortedItems n c1 A1 f (w2.drewN q) _ HI.out.2 hnn HI.out.1)
  clear hbi HE
  go_wp2_with fail
  refine HC.out.mono ?_
  rintro e w4 ⟨b4, rfl, h4, hb⟩
  obtain rfl : b4 = bi := by
    cases b4 <;> cases bi
    · rfl
    · exact absurd (h4.2 (HX.out.1 rfl)) (by simp)
    · exact absurd (HX.out.2 (h4.1 rfl)) (by simp)
    · rfl
  have HI := Lib.hid (And.intro (HI.out.1.keep hb HI.out.2) (Nat.le_trans HI.out.2 hb.size))
  have HB := Lib.hid (HB.out.trans (hb.mono HB.out.size))
  have HC := Lib.hid (implSortIsSortedItems n c1 A1 f w4 _ hnn HI.out.1)
  have hbb : (b4 == b4) = true := by simp
  clear hb h4
  go_wp2_with fail
  refine HC.out.mono ?_
  rintro e w5 ⟨b5, rfl, h5, q5, rfl⟩
  obtain rfl : b5 = b4 := by
    have hk : AscK f n ↔ AscF (fun k => (f k).1) n := ⟨fun h i h1 h2 => by have := of_decide_eq_false (h i h1 h2); show (f (i - 1)).1 ≤ (f i).1; omega, fun h i h1 h2 => decide_eq_false (by have : (f (i - 1)).1 ≤ (f i).1 := h i h1 h2; omega)⟩
    cases b5 <;> cases b4
    · rfl
    · exact absurd (h5.2 (hk.2 (HX.out.1 rfl))) (by simp)
    · exact absurd (HX.out.2 (hk.1 (h5.1 rfl))) (by simp)
    · rfl
  have HI := Lib.hid (And.intro (HI.out.1.drewN q5) HI.out.2)
  have HB := Lib.hid (below_drewN HB.out q5)
  have HC := Lib.hid (HSi.out (w4.drewN q5) _ A1 c1 HI.out.1)
  clear h5
  go_wp2_with fail
  refine HC.out.mono ?_
  rintro e w6 ⟨A6, c6, g6, rfl, hr, hb, hc6, hs6⟩
  have HK := Lib.hid (show AscF (fun k => (g6 k).1) n from fun i h1 h2 => by have := of_decide_eq_false (hs6 (i - 1) i (by omega) h2); show (g6 (i - 1)).1 ≤ (g6 i).1; omega)
  have HI := Lib.hid (And.intro (HI.out.1.keep hb HI.out.2) (Nat.le_trans HI.out.2 hb.size))
  have HB := Lib.hid (HB.out.trans (hb.mono HB.out.size))
  have HC := Lib.hid (implIsSortedItems n c6 A6 g6 w6 _ (Nat.le_refl _) hnn hr)
  clear hr hb hc6 hs6
  go_wp2_with fail
  refine HC.out.mono ?_
  rintro e w7 ⟨b7, rfl, h7, hb⟩
  obtain rfl : b7 = true := h7.2 HK.out
  have HI := Lib.hid (And.intro (HI.out.1.keep hb HI.out.2) (Nat.le_trans HI.out.2 hb.size))
  have HB := Lib.hid (HB.out.trans (hb.mono HB.out.size))
  have HC := Lib.hid (HSs.out w7 _ A1 c1 HI.out.1)
  clear hb h7
  go_wp2_with fail
  refine HC.out.mono ?_
  intro e w8 h8
  obtain ⟨A8, c8, rfl, hr, hb⟩ := h8.rd
  have HC := Lib.hid (implSortIsSortedItems n c8 A8 _ w8 _ hnn hr)
  have HB := Lib.hid (HB.out.trans (hb.mono HB.out.size))
  clear hr hb h8
  go_wp2_with fail
  refine HC.out.mono ?_
  rintro e w9 ⟨b9, rfl, h9, q9, rfl⟩
  obtain rfl : b9 = true := h9.2 (fun i h1 h2 => decide_eq_false (show ¬ (f (s i)).1 < (f (s (i - 1))).1 by have : (f (s (i - 1))).1 ≤ (f (s i)).1 := HF.out.2 i h1 h2; omega))
  clear h9
  go_wp2_with fail
  go_ret
  exact ⟨rfl, below_drewN HB.out q9⟩

/-- A list of the call's own in order. -/
def OutO (r : Int → Int → Bool) (w : World) (n : Nat) (e : Ending) (w' : World) : Prop :=
  ∃ A c g, e = .returned (.slice A n c) ∧ Rd w' w'.heap.size (Value.int .i64) A n g ∧ Below w.heap.size w w' ∧ (∀ i, I64 (g i)) ∧ ∀ i j, i < j → j < n → r (g j) (g i) = false
theorem OutP.outO {r : Int → Int → Bool} {w w' : World} {n : Nat} {f : Nat → Int} {p : Nat → Nat} {e : Ending} (h : OutP w n f p e w') (hf : ∀ i, I64 (f i)) (hs : ∀ i j, i < j → j < n → r (f (p j)) (f (p i)) = false) : OutO r w n e w' := by
  obtain ⟨v, rfl, ⟨G, hG, hF⟩, hb⟩ := h
  obtain ⟨A, c, rfl, hr⟩ := hG.rd (enc := Value.int .i64) (f := fun k => f (p k)) hF
  exact ⟨A, c, fun k => f (p k), rfl, hr, hb, fun i => hf _, hs⟩
theorem stable_no {T : Nat → Nat → Bool} (S : Swo T) {n i j : Nat} (hij : i < j) (hj : j < n) : T (stable (tabM T) n (fun k => k) j) (stable (tabM T) n (fun k => k) i) = false := by
  rcases stable_ord S n i j (Nat.zero_le _) hij hj with h | ⟨h, _⟩
  · cases hc : T (stable (tabM T) n (fun k => k) j) (stable (tabM T) n (fun k => k) i)
    · rfl
    · have := S.trans _ _ _ h hc
      rw [S.irrefl] at this; cases this
  · exact h

/-- Memory with the box of a relation of its own. -/
def RInv (w : World) (rb : Nat) (sz : Int) (A1 : Option Addr) (m c1 B1 : Nat) (g : Nat → Bool) (w' : World) : Prop :=
  Below w.heap.size w w' ∧ rb < w'.heap.size ∧ w'.cell? ⟨rb, 0, none⟩ = some (.int .i64 sz) ∧ w'.cell? ⟨rb, 1, none⟩ = some (.slice A1 m c1) ∧ B1 ≤ w'.heap.size ∧ Rd w' B1 Value.bool A1 m g
theorem RInv.step {w : World} {rb : Nat} {sz : Int} {A1 : Option Addr} {m c1 B1 : Nat} {g : Nat → Bool} {w' w2 : World} (h : RInv w rb sz A1 m c1 B1 g w') (hb : Below w'.heap.size w' w2) : RInv w rb sz A1 m c1 B1 g w2 :=
  ⟨h.1.trans (hb.mono h.1.size), Nat.lt_of_lt_of_le h.2.1 hb.size, (hb.cell (p := ⟨rb, 0, none⟩) h.2.1).trans h.2.2.1, (hb.cell (p := ⟨rb, 1, none⟩) h.2.1).trans h.2.2.2.1, Nat.le_trans h.2.2.2.2.1 hb.size, h.2.2.2.2.2.keep hb h.2.2.2.2.1⟩
theorem RInv.drewN {w : World} {rb : Nat} {sz : Int} {A1 : Option Addr} {m c1 B1 : Nat} {g : Nat → Bool} {w' : World} (h : RInv w rb sz A1 m c1 B1 g w') (q : Nat) : RInv w rb sz A1 m c1 B1 g (w'.drewN q) := ⟨below_drewN h.1 q, h.2⟩

set_option maxRecDepth 100000 in
set_option maxHeartbeats 4000000 in
theorem fnIsSortedOfOrderw (w : World) (A' : Option Addr) (n c' : Nat) (f : Nat → Int) (hf64 : ∀ i, I64 (f i)) (hl : n ≤ c') (hre : c' * 8 ≤ 140737488351232) (hrd' : Rd w w.heap.size (Value.int .i64) A' n f)
    (sz : Int) (A : Option Addr) (m c : Nat) (g : Nat → Bool) (hsz : I64 sz) (hlm : m ≤ c) (hrm : c ≤ 140737488351232) (hrd : Rd w w.heap.size Value.bool A m g) :
    Calls Try.prog 8 #[.slice A' n c', .agg #[.int .i64 sz, .slice A m c]] w fun e w' => e = .returned (.bool true) ∧ Below w.heap.size w w' := by
  have hm : m ≤ 140737488351232 := by omega
  have hn : n * 8 ≤ 140737488351232 := by omega
  have hnn : n ≤ 4611686018427387903 := by omega
  have HW := Lib.hid (fun w' (hb : Below w.heap.size w w') => weak sz A m c w.heap.size g A' n c' w.heap.size f w' hsz hm hb.size (hrd.keep hb (Nat.le_refl _)) hf64 hnn hb.size (hrd'.keep hb (Nat.le_refl _)))
  have HT := Lib.hid (fun w' (hb : Below w.heap.size w w') => toOrder sz A m c w.heap.size g w' hm hb.size (hrd.keep hb (Nat.le_refl _)))
  have HA : Hid (WeakP (relB sz m g) f n → ∀ w' rb A1 c1 B1, RInv w rb sz A1 m c1 B1 g w' → Calls Try.prog 22 #[.slice A' n c', .agg #[.int .i64 sz, .slice A1 m c1]] w' (OutO (relB sz m g) w' n)) := Lib.hid (fun hW w' rb A1 c1 B1 hi =>
    (implSortByOrder sz A1 m c1 B1 g A' n c' w.heap.size f w' hsz hm hi.2.2.2.2.1 hi.2.2.2.2.2 hf64 hn hi.1.size (hrd'.keep hi.1 (Nat.le_refl _)) hW).mono fun e w2 ⟨p, hp, hc, hs, ho⟩ => ho.outO hf64 hs)
  have HB : Hid (WeakP (relB sz m g) f n → ∀ w' rb A1 c1 B1, RInv w rb sz A1 m c1 B1 g w' → Calls Try.prog 23 #[.slice A' n c', .agg #[.int .i64 sz, .slice A1 m c1]] w' (OutO (relB sz m g) w' n)) := Lib.hid (fun hW w' rb A1 c1 B1 hi => by
    obtain ⟨T, hS, hT⟩ := swo_of_weak hW
    exact (implSortSortByOrder sz A1 m c1 B1 g A' n c' w.heap.size f T w' hsz hm hi.2.2.2.2.1 hi.2.2.2.2.2 hf64 hn hi.1.size (hrd'.keep hi.1 (Nat.le_refl _)) hT).mono fun e w2 ho => ho.outO hf64 (fun i j hij hj => by
      have h1 := sortP_sorted hS (show n < 18446744073709551616 by omega) hij hj
      rw [hT _ _ (sortP_in T hj) (sortP_in T (Nat.lt_trans hij hj))] at h1
      exact h1))
  have HC : Hid (WeakP (relB sz m g) f n → ∀ w' rb A1 c1 B1, RInv w rb sz A1 m c1 B1 g w' → Calls Try.prog 25 #[.slice A' n c', .agg #[.int .i64 sz, .slice A1 m c1]] w' (OutO (relB sz m g) w' n)) := Lib.hid (fun hW w' rb A1 c1 B1 hi => by
    obtain ⟨T, hS, hT⟩ := swo_of_weak hW
    exact (implSortStableByOrder sz A1 m c1 B1 g A' n c' w.heap.size f T w' hsz hm hi.2.2.2.2.1 hi.2.2.2.2.2 hf64 hn hi.1.size (hrd'.keep hi.1 (Nat.le_refl _)) hT).mono fun e w2 ho => ho.outO hf64 (fun i j hij hj => by
      have h1 := stable_no hS hij hj
      have hp := (stable_perm T n).1
      rw [hT _ _ (hp _ hj) (hp _ (Nat.lt_trans hij hj))] at h1
      exact h1))
  have HD : Hid (WeakP (relB sz m g) f n → ∀ w' rb A1 c1 B1, RInv w rb sz A1 m c1 B1 g w' → Calls Try.prog 24 #[.slice A' n c', .agg #[.int .i64 sz, .slice A1 m c1]] w' (OutO (relB sz m g) w' n)) := Lib.hid (fun hW w' rb A1 c1 B1 hi => by
    obtain ⟨T, hS, hT⟩ := swo_of_weak hW
    exact (implStableByOrder sz A1 m c1 B1 g A' n c' w.heap.size f T w' hsz hm hi.2.2.2.2.1 hi.2.2.2.2.2 hf64 hn hi.1.size (hrd'.keep hi.1 (Nat.le_refl _)) hT).mono fun e w2 ho => ho.outO hf64 (fun i j hij hj => by
      have h1 := stable_no hS hij hj
      have hp := (stable_perm T n).1
      rw [hT _ _ (hp _ hj) (hp _ (Nat.lt_trans hij hj))] at h1
      exact h1))
  have HP : Hid (∀ w' rb A1 c1 B1 Al cl gl, RInv w rb sz A1 m c1 B1 g w' → Rd w' w'.heap.size (Value.int .i64) Al n gl → (∀ i, I64 (gl i)) → (∀ i j, i < j → j < n → relB sz m g (gl j) (gl i) = false) → Calls Try.prog 32 #[.slice Al n cl, .agg #[.int .i64 sz, .slice A1 m c1]] w' (fun e w2 => e = .returned (.bool true) ∧ Below w'.heap.size w' w2)) := Lib.hid (fun w' rb A1 c1 B1 Al cl gl hi hr h64 hs =>
    (implIsSortedByOrder sz A1 m c1 B1 g Al n cl w'.heap.size gl w' hsz hm hi.2.2.2.2.1 hi.2.2.2.2.2 h64 hnn (Nat.le_refl _) hr).mono fun e w2 ⟨b, he, hb, hw⟩ => ⟨by
      rw [he, hb.2 (fun i h1 h2 => by
        have h3 := signI_neg (r := relB sz m g) (gl i) (gl (i - 1))
        rw [hs (i - 1) i (by omega) h2] at h3
        have := of_decide_eq_false h3
        show 0 ≤ signI (relB sz m g) (gl i) (gl (i - 1))
        omega)], hw⟩)
  have HQ : Hid (∀ w' rb A1 c1 B1 Al cl gl, RInv w rb sz A1 m c1 B1 g w' → Rd w' w'.heap.size (Value.int .i64) Al n gl → (∀ i, I64 (gl i)) → (∀ i j, i < j → j < n → relB sz m g (gl j) (gl i) = false) → Calls Try.prog 33 #[.slice Al n cl, .agg #[.int .i64 sz, .slice A1 m c1]] w' (fun e w2 => e = .returned (.bool true) ∧ Below w'.heap.size w' w2)) := Lib.hid (fun w' rb A1 c1 B1 Al cl gl hi hr h64 hs =>
    (implSortIsSortedByOrder sz A1 m c1 B1 g Al n cl w'.heap.size gl w' hsz hm hi.2.2.2.2.1 hi.2.2.2.2.2 h64 hnn (Nat.le_refl _) hr).mono fun e w2 ⟨b, he, hb, hw⟩ => ⟨by
      rw [he, hb.2 (fun i h1 h2 => hs (i - 1) i (by omega) h2)], hw⟩)
  have H0 := Lib.hid (BoxInv.first w sz A m c 38)
  clear hrd hrd' hf64 hre hl hlm hrm hsz
  generalize relB sz m g = r at *
  go_enter Try.func8, Try.ntmps8
  go_wp2_with fail
  refine (HW.out _ H0.out.bel).mono ?_
  rintro e w1 ⟨bw, rfl, hbw, hb1⟩
  have H1 := Lib.hid (H0.out.step hb1)
  have p0 := H1.out.c0
  have p1 := H1.out.c1
  clear hb1 H0
  cases bw
  · clear hbw
    go_wp2_with fail
    go_ret
    exact ⟨rfl, H1.out.bel⟩
  · have HWk := Lib.hid (hbw.1 rfl)
    clear hbw
    go_wp2_with fail
    refine (HT.out _ H1.out.bel).mono ?_
    rintro e w2 ⟨A1, c1, rfl, hr2, hb2⟩
    have hbel := H1.out.bel.trans (hb2.mono H1.out.bel.size)
    have hRI : RInv w w2.heap.size sz A1 m c1 w2.heap.size g (w2.alloc (.cells #[.int .i64 sz, .slice A1 m c1] 33)) :=
      ⟨hbel.alloc hbel.size _, by simp, by simp [go_sem], by simp [go_sem], by simp, hr2.alloc (Nat.le_refl _) _⟩
    have HRI := Lib.hid hRI
    clear hr2 hb2 hbel hRI p0 p1
    go_wp2_with fail
    generalize hV : w2.alloc (.cells #[.int .i64 sz, .slice A1 m c1] 33) = V at *
    clear hV
    have p0 := HRI.out.2.2.1
    have p1 := HRI.out.2.2.2.1
    generalize w2.heap.size = rb at *
    have HI : Hid (RInv w rb sz A1 m c1 rb g V.drew) := Lib.hid (HRI.out.drewN 1)
    go_region_held3 (fun w' => w'.cell? ⟨rb, 0, none⟩ = some (.int .i64 sz) ∧ w'.cell? ⟨rb, 1, none⟩ = some (.slice A1 m c1))
      (go_keep)
      (first
        | (go_at_call 22; refine (HA.out HWk.out _ rb A1 c1 rb HI.out).mono ?_; rintro e w5 ⟨Al, cl, gl, rfl, hr5, hb5, h64, hs5⟩; have HI := Lib.hid (HI.out.step hb5); have HL := Lib.hid (And.intro hr5 (And.intro h64 hs5)); have q0 := HI.out.2.2.1; have q1 := HI.out.2.2.2.1; clear hb5 hr5 h64 hs5)
        | (go_at_call 23; refine (HB.out HWk.out _ rb A1 c1 rb HI.out).mono ?_; rintro e w5 ⟨Al, cl, gl, rfl, hr5, hb5, h64, hs5⟩; have HI := Lib.hid (HI.out.step hb5); have HL := Lib.hid (And.intro hr5 (And.intro h64 hs5)); have q0 := HI.out.2.2.1; have q1 := HI.out.2.2.2.1; clear hb5 hr5 h64 hs5)
        | (go_at_call 25; refine (HC.out HWk.out _ rb A1 c1 rb HI.out).mono ?_; rintro e w5 ⟨Al, cl, gl, rfl, hr5, hb5, h64, hs5⟩; have HI := Lib.hid (HI.out.step hb5); have HL := Lib.hid (And.intro hr5 (And.intro h64 hs5)); have q0 := HI.out.2.2.1; have q1 := HI.out.2.2.2.1; clear hb5 hr5 h64 hs5)
        | (go_at_call 24; refine (HD.out HWk.out _ rb A1 c1 rb HI.out).mono ?_; rintro e w5 ⟨Al, cl, gl, rfl, hr5, hb5, h64, hs5⟩; have HI := Lib.hid (HI.out.step hb5); have HL := Lib.hid (And.intro hr5 (And.intro h64 hs5)); have q0 := HI.out.2.2.1; have q1 := HI.out.2.2.2.1; clear hb5 hr5 h64 hs5)
        | (go_at_call 32; refine (HP.out _ rb A1 c1 rb Al cl gl HI.out HL.out.1 HL.out.2.1 HL.out.2.2).mono ?_; rintro e w6 ⟨rfl, hb6⟩; have HI := Lib.hid (HI.out.step hb6); have q0 := HI.out.2.2.1; have q1 := HI.out.2.2.2.1; clear hb6)
        | (go_at_call 33; refine (HQ.out _ rb A1 c1 rb Al cl gl HI.out HL.out.1 HL.out.2.1 HL.out.2.2).mono ?_; rintro e w6 ⟨rfl, hb6⟩; have HI := Lib.hid (HI.out.step hb6); have q0 := HI.out.2.2.1; have q1 := HI.out.2.2.2.1; clear hb6))
    go_wp2_with fail
    go_ret
    exact ⟨rfl, HI.out.1⟩
end Go.Proofs.Ytjammaglboehcaa
