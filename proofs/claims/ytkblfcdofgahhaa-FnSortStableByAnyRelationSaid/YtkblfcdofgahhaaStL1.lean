/-
  The walk of the law FnSortStableByAnyRelation.
-/
import Derived.Test.YtkblfcdofgahhaaStN
namespace Go.Proofs.Ytkblfcdofgahhaa
open Go.RowKit Go.Proofs
set_option linter.unusedVariables false

set_option maxHeartbeats 1000000 in
theorem fnSortStableByAnyRelationw (w : World) (A' : Option Addr) (n c' : Nat) (f : Nat → Int) (hf64 : ∀ i, I64 (f i)) (hl : n ≤ c') (hre : c' * 8 ≤ 140737488351232) (hrd' : Rd w w.heap.size (Value.int .i64) A' n f)
    (sz : Int) (A : Option Addr) (m c : Nat) (g : Nat → Bool) (hsz : I64 sz) (hlm : m ≤ c) (hrm : c ≤ 140737488351232) (hrd : Rd w w.heap.size Value.bool A m g) :
    Calls Try.prog 4 #[.slice A' n c', .agg #[.int .i64 sz, .slice A m c]] w fun e w' => e = .returned (.bool true) ∧ Below w.heap.size w w' := by
  have hm : m ≤ 140737488351232 := by omega
  have hn : n * 8 ≤ 140737488351232 := by omega
  have HT := Lib.hid (fun w' (hb : Below w.heap.size w w') => toOrder sz A m c w.heap.size g w' hm hb.size (hrd.keep hb (Nat.le_refl _)))
  have HI := Lib.hid (fun w' A1 c1 (hb : Below w.heap.size w w') (hr : Rd w' w'.heap.size Value.bool A1 m g) => implSortStableByOrder sz A1 m c1 w'.heap.size g A' n c' w.heap.size f (fun i j => relB sz m g (f i) (f j)) w' hsz hm (Nat.le_refl _) hr hf64 hn hb.size (hrd'.keep hb (Nat.le_refl _)) (fun _ _ _ _ => rfl))
  have HN := Lib.hid (fun w' A1 c1 (hb : Below w.heap.size w w') (hr : Rd w' w'.heap.size (Value.int .i64) A1 n (fun k => f (stable (tabM fun i j => relB sz m g (f i) (f j)) n (fun k => k) k))) => sameNumbers A' A1 n c' c1 w.heap.size w'.heap.size f _ w' (by omega) (hrd'.keep hb (Nat.le_refl _)) hr (fun x => (stable_count (fun i j => relB sz m g (f i) (f j)) n (fun k => f k == x)).symm))
  have H0 := Lib.hid (BoxInv.first w sz A m c 33)
  clear hrd hrd' hf64 hre hl hlm hrm hsz
  generalize stable (tabM fun i j => relB sz m g (f i) (f j)) n (fun k => k) = p at *
  go_enter Try.func4, Try.ntmps4
  go_wp2_with fail
  refine (HT.out _ H0.out.bel).mono ?_
  rintro e w3 ⟨A1, c1, rfl, hr1, hb3⟩
  have H3 := Lib.hid (H0.out.step hb3)
  have HR3 := Lib.hid hr1
  clear hb3 hr1
  go_wp2_with fail
  refine (HI.out _ A1 c1 H3.out.bel HR3.out).mono ?_
  rintro e w4 ⟨v4, rfl, ⟨G, hG, hF⟩, hb4⟩
  have H4 := Lib.hid (H3.out.step hb4)
  obtain ⟨A4, c4, rfl, hr4⟩ := hG.rd (enc := Value.int .i64) (f := fun k => f (p k)) hF
  have HR4 := Lib.hid hr4
  clear hb4 hG hF hr4
  go_wp2_with fail
  refine (HN.out _ A4 c4 H4.out.bel HR4.out).mono ?_
  rintro e w5 ⟨rfl, q, rfl⟩
  go_wp2_with fail
  go_ret
  exact ⟨rfl, below_drewN H4.out.bel q⟩
end Go.Proofs.Ytkblfcdofgahhaa
