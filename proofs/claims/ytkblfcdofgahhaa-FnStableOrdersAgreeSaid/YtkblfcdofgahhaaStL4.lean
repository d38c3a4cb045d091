/-
  The walks of the laws FnNoRelationStays and FnStableOrdersAgree.
-/
import Derived.Test.YtkblfcdofgahhaaStV
import Derived.Test.YtkblfcdofgahhaaStL2
import Derived.Test.YtkblfcdofgahhaaStL3
namespace Go.Proofs.Ytkblfcdofgahhaa
open Go.RowKit Go.Proofs
set_option linter.unusedVariables false

theorem OutP.rd {w w' : World} {n : Nat} {f : Nat → Int} {p : Nat → Nat} {e : Ending} (h : OutP w n f p e w') : ∃ A c, e = .returned (.slice A n c) ∧ Rd w' w'.heap.size (Value.int .i64) A n (fun k => f (p k)) ∧ Below w.heap.size w w' := by
  obtain ⟨v, rfl, ⟨G, hG, hF⟩, hb⟩ := h
  obtain ⟨A, c, rfl, hr⟩ := hG.rd (enc := Value.int .i64) (f := fun k => f (p k)) hF
  exact ⟨A, c, rfl, hr, hb⟩

theorem noT_stays (n : Nat) : ∀ k, k < n → stable (tabM fun _ _ => false) n (fun k => k) k = k :=
  stable_stays ⟨fun _ => rfl, fun _ _ _ h => absurd h (by simp), fun _ _ _ _ _ => rfl⟩ (fun x y _ h _ => .inr ⟨rfl, h⟩)

set_option maxHeartbeats 1000000 in
theorem fnNoRelationStaysw (w : World) (A : Option Addr) (n c : Nat) (f : Nat → Int) (hf64 : ∀ i, I64 (f i)) (hl : n ≤ c) (hre : c * 8 ≤ 140737488351232) (hrd : Rd w w.heap.size (Value.int .i64) A n f) :
    Calls Try.prog 12 #[.slice A n c] w fun e w' => e = .returned (.bool true) ∧ Below w.heap.size w w' := by
  have hn : n * 8 ≤ 140737488351232 := by omega
  have hnn : n ≤ 4611686018427387903 := by omega
  have hT : ∀ i j, i < n → j < n → (fun _ _ => false : Nat → Nat → Bool) i j = relB 0 0 (fun _ => false) (f i) (f j) := fun i j _ _ => (relB_false (by omega)).symm
  have HI := Lib.hid (fun w' (hb : Below w.heap.size w w') => implStableByOrder 0 none 0 0 w.heap.size (fun _ => false) A n c w.heap.size f _ w' i64_zero (by omega) hb.size Rd.none hf64 hn hb.size (hrd.keep hb (Nat.le_refl _)) hT)
  have HJ := Lib.hid (fun w' (hb : Below w.heap.size w w') => implSortStableByOrder 0 none 0 0 w.heap.size (fun _ => false) A n c w.heap.size f _ w' i64_zero (by omega) hb.size Rd.none hf64 hn hb.size (hrd.keep hb (Nat.le_refl _)) hT)
  have HS := Lib.hid (noT_stays n)
  have HR := Lib.hid hrd
  clear hrd hf64 hre hl hT
  generalize stable (tabM fun _ _ => false) n (fun k => k) = p at *
  go_enter Try.func12, Try.ntmps12
  go_wp2_with fail
  refine (HI.out w (Below.refl _ _)).mono ?_
  intro e w1 h1
  obtain ⟨A1, c1, rfl, hr1, hb1⟩ := h1.rd
  have HB1 := Lib.hid hb1
  have HE := Lib.hid (sameInts n n c1 c A1 A _ f w1 _ _ hnn hnn hr1 (HR.out.keep hb1 (Nat.le_refl _)))
  clear hr1 hb1 h1
  go_wp2_with fail
  refine HE.out.mono ?_
  rintro e w2 ⟨b2, rfl, hb2, q2, rfl⟩
  obtain rfl : b2 = true := hb2.2 ⟨rfl, fun i hi => by show f (p i) = f i; rw [HS.out i hi]⟩
  have HB2 := Lib.hid (below_drewN HB1.out q2)
  clear hb2
  go_wp2_with fail
  refine (HJ.out _ HB2.out).mono ?_
  intro e w3 h3
  obtain ⟨A3, c3, rfl, hr3, hb3⟩ := h3.rd
  have HB3 := Lib.hid (HB2.out.trans (hb3.mono HB2.out.size))
  have HE3 := Lib.hid (sameInts n n c3 c A3 A _ f w3 _ _ hnn hnn hr3 (HR.out.keep HB3.out (Nat.le_refl _)))
  clear hr3 hb3 h3
  go_wp2_with fail
  refine HE3.out.mono ?_
  rintro e w4 ⟨b4, rfl, hb4, q4, rfl⟩
  obtain rfl : b4 = true := hb4.2 ⟨rfl, fun i hi => by show f (p i) = f i; rw [HS.out i hi]⟩
  clear hb4
  go_wp2_with fail
  go_ret
  exact ⟨rfl, below_drewN HB3.out q4⟩

set_option maxHeartbeats 2000000 in
theorem fnStableOrdersAgreew (w : World) (A' : Option Addr) (n c' : Nat) (f : Nat → Int) (hf64 : ∀ i, I64 (f i)) (hl : n ≤ c') (hre : c' * 8 ≤ 140737488351232) (hrd' : Rd w w.heap.size (Value.int .i64) A' n f)
    (sz : Int) (A : Option Addr) (m c : Nat) (g : Nat → Bool) (hsz : I64 sz) (hlm : m ≤ c) (hrm : c ≤ 140737488351232) (hrd : Rd w w.heap.size Value.bool A m g) :
    Calls Try.prog 13 #[.slice A' n c', .agg #[.int .i64 sz, .slice A m c]] w fun e w' => e = .returned (.bool true) ∧ Below w.heap.size w w' := by
  have hm : m ≤ 140737488351232 := by omega
  have hn : n * 8 ≤ 140737488351232 := by omega
  have hnn : n ≤ 4611686018427387903 := by omega
  have hee : ((n : Int) == (n : Int)) = true := by simp
  have HW := Lib.hid (fun w' (hb : Below w.heap.size w w') => weak sz A m c w.heap.size g A' n c' w.heap.size f w' hsz hm hb.size (hrd.keep hb (Nat.le_refl _)) hf64 hnn hb.size (hrd'.keep hb (Nat.le_refl _)))
  have HT := Lib.hid (fun w' (hb : Below w.heap.size w w') => toOrder sz A m c w.heap.size g w' hm hb.size (hrd.keep hb (Nat.le_refl _)))
  have HI := Lib.hid (fun w' A1 c1 (hb : Below w.heap.size w w') (hr : Rd w' w'.heap.size Value.bool A1 m g) => implSortStableByOrder sz A1 m c1 w'.heap.size g A' n c' w.heap.size f (fun i j => relB sz m g (f i) (f j)) w' hsz hm (Nat.le_refl _) hr hf64 hn hb.size (hrd'.keep hb (Nat.le_refl _)) (fun _ _ _ _ => rfl))
  have HJ := Lib.hid (fun w' A1 c1 (hb : Below w.heap.size w w') (hr : Rd w' w'.heap.size Value.bool A1 m g) => implStableByOrder sz A1 m c1 w'.heap.size g A' n c' w.heap.size f (fun i j => relB sz m g (f i) (f j)) w' hsz hm (Nat.le_refl _) hr hf64 hn hb.size (hrd'.keep hb (Nat.le_refl _)) (fun _ _ _ _ => rfl))
  have H0 := Lib.hid (BoxInv.first w sz A m c 33)
  clear hrd hrd' hf64 hre hl hlm hrm hsz
  generalize stable (tabM fun i j => relB sz m g (f i) (f j)) n (fun k => k) = p at *
  go_enter Try.func13, Try.ntmps13
  go_wp2_with fail
  refine (HW.out _ H0.out.bel).mono ?_
  rintro e w1 ⟨bw, rfl, hbw, hb1⟩
  have H1 := Lib.hid (H0.out.step hb1)
  have p0 := H1.out.c0
  have p1 := H1.out.c1
  clear hb1 H0 hbw
  cases bw
  · go_wp2_with fail
    go_ret
    exact ⟨rfl, H1.out.bel⟩
  · go_wp2_with fail
    refine (HT.out _ H1.out.bel).mono ?_
    rintro e w2 ⟨A2, c2, rfl, hr2, hb2⟩
    have H2 := Lib.hid (H1.out.step hb2)
    have HR2 := Lib.hid hr2
    clear hb2 hr2
    go_wp2_with fail
    refine (HJ.out _ A2 c2 H2.out.bel HR2.out).mono ?_
    intro e w3 h3
    obtain ⟨A3, c3, rfl, hr3, hb3⟩ := h3.rd
    have H3 := Lib.hid (H2.out.step hb3)
    have HR3 := Lib.hid hr3
    have p0 := H3.out.c0
    have p1 := H3.out.c1
    clear hb3 hr3 h3
    go_wp2_with fail
    refine (HT.out _ H3.out.bel).mono ?_
    rintro e w4 ⟨A4, c4, rfl, hr4, hb4⟩
    have H4 := Lib.hid (H3.out.step hb4)
    have HR4 := Lib.hid hr4
    have HR34 := Lib.hid (HR3.out.keep hb4 (Nat.le_refl _))
    have HS34 := Lib.hid hb4.size
    clear hb4 hr4
    go_wp2_with fail
    refine (HI.out _ A4 c4 H4.out.bel HR4.out).mono ?_
    intro e w5 h5
    obtain ⟨A5, c5, rfl, hr5, hb5⟩ := h5.rd
    have H5 := Lib.hid (H4.out.step hb5)
    have HE := Lib.hid (sameInts n n c3 c5 A3 A5 _ _ w5 _ _ hnn hnn (HR34.out.keep hb5 HS34.out) hr5)
    clear hb5 hr5 h5
    go_wp2_with fail
    refine HE.out.mono ?_
    rintro e w6 ⟨b6, rfl, hb6, q6, rfl⟩
    obtain rfl : b6 = true := hb6.2 ⟨rfl, fun _ _ => rfl⟩
    clear hb6
    go_wp2_with fail
    go_ret
    exact ⟨rfl, below_drewN H5.out.bel q6⟩
end Go.Proofs.Ytkblfcdofgahhaa
