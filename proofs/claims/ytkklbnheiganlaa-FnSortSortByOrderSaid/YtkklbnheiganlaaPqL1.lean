/-
  The walks of the laws FnSortSortByAnyRelation and FnSortSortByOrder.
-/
import Derived.Test.YtkklbnheiganlaaStN
import Derived.Test.YtkklbnheiganlaaPqC
import Derived.Test.YtkklbnheiganlaaStL2
namespace Go.Proofs.Ytkklbnheiganlaa
open Go.RowKit Go.Proofs
set_option linter.unusedVariables false

set_option maxHeartbeats 1000000 in
theorem fnSortSortByAnyRelationw (w : World) (A' : Option Addr) (n c' : Nat) (f : Nat → Int) (hf64 : ∀ i, I64 (f i)) (hl : n ≤ c') (hre : c' * 8 ≤ 140737488351232) (hrd' : Rd w w.heap.size (Value.int .i64) A' n f)
    (sz : Int) (A : Option Addr) (m c : Nat) (g : Nat → Bool) (hsz : I64 sz) (hlm : m ≤ c) (hrm : c ≤ 140737488351232) (hrd : Rd w w.heap.size Value.bool A m g) :
    Calls Try.prog 5 #[.slice A' n c', .agg #[.int .i64 sz, .slice A m c]] w fun e w' => e = .returned (.bool true) ∧ Below w.heap.size w w' := by
  have hm : m ≤ 140737488351232 := by omega
  have hn : n * 8 ≤ 140737488351232 := by omega
  have HT := Lib.hid (fun w' (hb : Below w.heap.size w w') => toOrder sz A m c w.heap.size g w' hm hb.size (hrd.keep hb (Nat.le_refl _)))
  have HI := Lib.hid (fun w' A1 c1 (hb : Below w.heap.size w w') (hr : Rd w' w'.heap.size Value.bool A1 m g) => implSortSortByOrder sz A1 m c1 w'.heap.size g A' n c' w.heap.size f (fun i j => relB sz m g (f i) (f j)) w' hsz hm (Nat.le_refl _) hr hf64 hn hb.size (hrd'.keep hb (Nat.le_refl _)) (fun _ _ _ _ => rfl))
  have HN := Lib.hid (fun w' A1 c1 (hb : Below w.heap.size w w') (hr : Rd w' w'.heap.size (Value.int .i64) A1 n (fun k => f (sortP (fun i j => relB sz m g (f i) (f j)) n k))) => sameNumbers A' A1 n c' c1 w.heap.size w'.heap.size f _ w' (by omega) (hrd'.keep hb (Nat.le_refl _)) hr (fun x => (sortP_count (fun i j => relB sz m g (f i) (f j)) n (fun k => f k == x)).symm))
  have H0 := Lib.hid (BoxInv.first w sz A m c 33)
  clear hrd hrd' hf64 hre hl hlm hrm hsz
  generalize sortP (fun i j => relB sz m g (f i) (f j)) n = p at *
  go_enter Try.func5, Try.ntmps5
  go_wp2_with fail
  refine (HT.out _ H0.out.bel).mono ?_
  rintro e w3 ⟨A1, c1, rfl, hr1, hb3⟩
  have H3 := Lib.hid (H0.out.step hb3)
  have HR3 := Lib.hid hr1
  clear hb3 hr1
  go_wp2_with fail
  refine (HI.out _ A1 c1 H3.out.bel HR3.out).mono ?_
  rintro e w4 ⟨v4, rfl, ⟨G, hG, hF⟩, hb4⟩
  have H4 := Lib.hid (H3.out.step hb4)
  obtain ⟨A4, c4, rfl, hr4⟩ := hG.rd (enc := Value.int .i64) (f := fun k => f (p k)) hF
  have HR4 := Lib.hid hr4
  clear hb4 hG hF hr4
  go_wp2_with fail
  refine (HN.out _ A4 c4 H4.out.bel HR4.out).mono ?_
  rintro e w5 ⟨rfl, q, rfl⟩
  go_wp2_with fail
  go_ret
  exact ⟨rfl, below_drewN H4.out.bel q⟩

set_option maxHeartbeats 2000000 in
theorem fnSortSortByOrderw (w : World) (A' : Option Addr) (n c' : Nat) (f : Nat → Int) (hf64 : ∀ i, I64 (f i)) (hl : n ≤ c') (hre : c' * 8 ≤ 140737488351232) (hrd' : Rd w w.heap.size (Value.int .i64) A' n f)
    (sz : Int) (A : Option Addr) (m c : Nat) (g : Nat → Bool) (hsz : I64 sz) (hlm : m ≤ c) (hrm : c ≤ 140737488351232) (hrd : Rd w w.heap.size Value.bool A m g) :
    Calls Try.prog 6 #[.slice A' n c', .agg #[.int .i64 sz, .slice A m c]] w fun e w' => e = .returned (.bool true) ∧ Below w.heap.size w w' := by
  have hm : m ≤ 140737488351232 := by omega
  have hn : n * 8 ≤ 140737488351232 := by omega
  have hnn : n ≤ 4611686018427387903 := by omega
  have HW := Lib.hid (fun w' (hb : Below w.heap.size w w') => weak sz A m c w.heap.size g A' n c' w.heap.size f w' hsz hm hb.size (hrd.keep hb (Nat.le_refl _)) hf64 hnn hb.size (hrd'.keep hb (Nat.le_refl _)))
  have HT := Lib.hid (fun w' (hb : Below w.heap.size w w') => toOrder sz A m c w.heap.size g w' hm hb.size (hrd.keep hb (Nat.le_refl _)))
  have HI := Lib.hid (fun (T : Nat → Nat → Bool) (hT : ∀ i j, i < n → j < n → T i j = relB sz m g (f i) (f j)) w' A1 c1 (hb : Below w.heap.size w w') (hr : Rd w' w'.heap.size Value.bool A1 m g) => implSortSortByOrder sz A1 m c1 w'.heap.size g A' n c' w.heap.size f T w' hsz hm (Nat.le_refl _) hr hf64 hn hb.size (hrd'.keep hb (Nat.le_refl _)) hT)
  have HO := Lib.hid (fun (p : Nat → Nat) w' A1 c1 (hb : Below w.heap.size w w') (hr : Rd w' w'.heap.size (Value.int .i64) A1 n (fun k => f (p k))) => inOrder sz A m c w.heap.size g A1 n c1 w'.heap.size (fun k => f (p k)) w' hsz hm hb.size (hrd.keep hb (Nat.le_refl _)) (fun k => hf64 _) hnn (Nat.le_refl _) hr)
  have HN := Lib.hid (fun (p : Nat → Nat) (hp : Count n p) w' B1 A1 c1 (hb : Below w.heap.size w w') (hr : Rd w' B1 (Value.int .i64) A1 n (fun k => f (p k))) => sameNumbers A' A1 n c' c1 w.heap.size B1 f _ w' (by omega) (hrd'.keep hb (Nat.le_refl _)) hr (fun x => (hp (fun k => f k == x)).symm))
  have H0 := Lib.hid (BoxInv.first w sz A m c 33)
  clear hrd hrd' hf64 hre hl hlm hrm hsz
  generalize relB sz m g = r at *
  go_enter Try.func6, Try.ntmps6
  go_wp2_with fail
  refine (HW.out _ H0.out.bel).mono ?_
  rintro e w1 ⟨bw, rfl, hbw, hb1⟩
  have H1 := Lib.hid (H0.out.step hb1)
  have p0 := H1.out.c0
  have p1 := H1.out.c1
  clear hb1 H0
  cases bw
  · clear hbw
    go_wp2_with fail
    go_ret
    exact ⟨rfl, H1.out.bel⟩
  · obtain ⟨T, hS, hT⟩ := swo_of_weak (hbw.1 rfl)
    have HI2 := Lib.hid (HI.out T hT)
    have hs : InOrd r (fun k => f (sortP T n k)) n := fun i j hij hj => by
      have h1 := sortP_sorted hS (show n < 18446744073709551616 by omega) hij hj
      rw [hT _ _ (sortP_in T hj) (sortP_in T (Nat.lt_trans hij hj))] at h1
      exact h1
    have HN2 := Lib.hid (HN.out (sortP T n) (sortP_count T n))
    have HSo := Lib.hid hs
    clear hbw hS hT HI HN hs
    generalize sortP T n = p at *
    go_wp2_with fail
    refine (HT.out _ H1.out.bel).mono ?_
    rintro e w3 ⟨A1, c1, rfl, hr1, hb3⟩
    have H3 := Lib.hid (H1.out.step hb3)
    have HR3 := Lib.hid hr1
    clear hb3 hr1
    go_wp2_with fail
    refine (HI2.out _ A1 c1 H3.out.bel HR3.out).mono ?_
    rintro e w4 ⟨v4, rfl, ⟨G, hG, hF⟩, hb4⟩
    have H4 := Lib.hid (H3.out.step hb4)
    obtain ⟨A4, c4, rfl, hr4⟩ := hG.rd (enc := Value.int .i64) (f := fun k => f (p k)) hF
    have HR4 := Lib.hid hr4
    have q0 := H4.out.c0
    have q1 := H4.out.c1
    clear hb4 hG hF hr4
    go_wp2_with fail
    refine (HO.out p _ A4 c4 H4.out.bel HR4.out).mono ?_
    rintro e w5 ⟨b5, rfl, h5, hb5⟩
    obtain rfl : b5 = true := h5.2 HSo.out
    have H5 := Lib.hid (H4.out.step hb5)
    have HR5 := Lib.hid (HR4.out.keep hb5 (Nat.le_refl _))
    clear hb5 h5
    go_wp2_with fail
    refine (HN2.out _ _ A4 c4 H5.out.bel HR5.out).mono ?_
    rintro e w6 ⟨rfl, q, rfl⟩
    go_wp2_with fail
    go_ret
    exact ⟨rfl, below_drewN H5.out.bel q⟩
end Go.Proofs.Ytkklbnheiganlaa
