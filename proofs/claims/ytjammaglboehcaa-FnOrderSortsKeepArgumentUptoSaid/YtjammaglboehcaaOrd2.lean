/-
  The walks of sign, toOrder, the closures over a relation, slices.IsSortedFunc and the methods of ordered.
-/
import Derived.Test.YtjammaglboehcaaOrd
import Derived.Test.YtjammaglboehcaaCpyS
import Derived.Test.YtjammaglboehcaaIsI
namespace Go.Proofs.Ytjammaglboehcaa
open Go.RowKit Go.Proofs
set_option linter.unusedVariables false

/-- The sign of a comparison. -/
def signI (r : Int → Int → Bool) (a b : Int) : Int := if r a b = true then -1 else if r b a = true then 1 else 0

set_option maxHeartbeats 1000000 in
theorem sign (sz a b : Int) (A : Option Addr) (m c B : Nat) (f : Nat → Bool) (w : World) (hsz : I64 sz) (ha : I64 a) (hb : I64 b) (hm : m ≤ 140737488351232) (hB : B ≤ w.heap.size) (hrd : Rd w B Value.bool A m f) :
    Calls Try.prog 49 #[.agg #[.int .i64 sz, .slice A m c], .int .i64 a, .int .i64 b] w (Gives (.int .i64 (signI (relB sz m f) a b)) w) := by
  have HC := Lib.hid (fun a b w' (ha : I64 a) (hb : I64 b) (hbel : Below w.heap.size w w') => before sz a b A m c B f w' hsz ha hb hm (Nat.le_trans hB hbel.size) (hrd.keep hbel hB))
  have HA := Lib.hid ha; have HB := Lib.hid hb
  have HBel := Lib.hid (fun o => (Below.refl w.heap.size w).alloc (Nat.le_refl _) o)
  clear hrd hB ha hb hsz
  unfold signI
  generalize relB sz m f = r at *
  have HC1 := Lib.hid (fun w' hbel => HC.out a b w' HA.out HB.out hbel)
  have HC2 := Lib.hid (fun w' hbel => HC.out b a w' HB.out HA.out hbel)
  clear HC
  cases h1 : r a b
  · cases h2 : r b a
    · rw [h1] at HC1; rw [h2] at HC2
      clear h1 h2
      go_enter Try.func49, Try.ntmps49
      go_wp2_with fail
      refine (HC1.out _ (HBel.out _)).mono ?_
      rintro e w1 ⟨rfl, hb1⟩
      have HB1 := Lib.hid ((HBel.out _).trans (hb1.mono (HBel.out _).size))
      have hc0 := box_keep hb1 0 rfl
      have hc1 := box_keep hb1 1 rfl
      clear hb1 HC1
      go_wp2_with fail
      refine (HC2.out _ HB1.out).mono ?_
      rintro e w2 ⟨rfl, hb2⟩
      have HB2 := Lib.hid (HB1.out.trans (hb2.mono HB1.out.size)); clear hb2
      go_wp2_with fail
      go_ret
      exact ⟨rfl, HB2.out⟩
    · rw [h1] at HC1; rw [h2] at HC2
      clear h1 h2
      go_enter Try.func49, Try.ntmps49
      go_wp2_with fail
      refine (HC1.out _ (HBel.out _)).mono ?_
      rintro e w1 ⟨rfl, hb1⟩
      have HB1 := Lib.hid ((HBel.out _).trans (hb1.mono (HBel.out _).size))
      have hc0 := box_keep hb1 0 rfl
      have hc1 := box_keep hb1 1 rfl
      clear hb1 HC1
      go_wp2_with fail
      refine (HC2.out _ HB1.out).mono ?_
      rintro e w2 ⟨rfl, hb2⟩
      have HB2 := Lib.hid (HB1.out.trans (hb2.mono HB1.out.size)); clear hb2
      go_wp2_with fail
      go_ret
      exact ⟨rfl, HB2.out⟩
  · rw [h1] at HC1
    clear h1 HC2
    go_enter Try.func49, Try.ntmps49
    go_wp2_with fail
    refine (HC1.out _ (HBel.out _)).mono ?_
    rintro e w1 ⟨rfl, hb1⟩
    have HB1 := Lib.hid ((HBel.out _).trans (hb1.mono (HBel.out _).size))
    clear hb1 HC1
    go_wp2_with fail
    go_ret
    exact ⟨rfl, HB1.out⟩

/-- A box of a relation: a struct of two cells that stands in memory. -/
def OrdBox (w : World) (g : Nat) (sz : Int) (A : Option Addr) (m c : Nat) : Prop := w.cell? ⟨g, 0, none⟩ = some (.int .i64 sz) ∧ w.cell? ⟨g, 1, none⟩ = some (.slice A m c)

set_option maxHeartbeats 1000000 in
/-- The closure over a relation. -/
theorem byOrderI (sz a b : Int) (A : Option Addr) (m c B g : Nat) (f : Nat → Bool) (w : World) (hsz : I64 sz) (ha : I64 a) (hb : I64 b) (hm : m ≤ 140737488351232) (hB : B ≤ w.heap.size) (hrd : Rd w B Value.bool A m f) (hg : OrdBox w g sz A m c) :
    Calls Try.prog 56 #[.int .i64 a, .int .i64 b, .pointer (some ⟨g, 0, none⟩)] w (Gives (.int .i64 (signI (relB sz m f) a b)) w) := by
  have HC := Lib.hid (sign sz a b A m c B f w hsz ha hb hm hB hrd)
  obtain ⟨hc0, hc1⟩ := hg
  clear hrd hB ha hb hsz
  generalize signI (relB sz m f) a b = r at *
  go_enter Try.func56, Try.ntmps56
  go_wp2_with fail
  refine HC.out.mono ?_
  rintro e w1 ⟨rfl, hb1⟩
  have HB1 := Lib.hid hb1; clear hb1
  go_wp2_with fail
  go_ret
  exact ⟨rfl, HB1.out⟩
set_option maxHeartbeats 1000000 in
/-- The closure over a relation. -/
theorem byOrderS (sz a b : Int) (A : Option Addr) (m c B g : Nat) (f : Nat → Bool) (w : World) (hsz : I64 sz) (ha : I64 a) (hb : I64 b) (hm : m ≤ 140737488351232) (hB : B ≤ w.heap.size) (hrd : Rd w B Value.bool A m f) (hg : OrdBox w g sz A m c) :
    Calls Try.prog 48 #[.int .i64 a, .int .i64 b, .pointer (some ⟨g, 0, none⟩)] w (Gives (.int .i64 (signI (relB sz m f) a b)) w) := by
  have HC := Lib.hid (sign sz a b A m c B f w hsz ha hb hm hB hrd)
  obtain ⟨hc0, hc1⟩ := hg
  clear hrd hB ha hb hsz
  generalize signI (relB sz m f) a b = r at *
  go_enter Try.func48, Try.ntmps48
  go_wp2_with fail
  refine HC.out.mono ?_
  rintro e w1 ⟨rfl, hb1⟩
  have HB1 := Lib.hid hb1; clear hb1
  go_wp2_with fail
  go_ret
  exact ⟨rfl, HB1.out⟩
set_option maxHeartbeats 1000000 in
/-- The closure over a relation. -/
theorem byOrderT (sz a b : Int) (A : Option Addr) (m c B g : Nat) (f : Nat → Bool) (w : World) (hsz : I64 sz) (ha : I64 a) (hb : I64 b) (hm : m ≤ 140737488351232) (hB : B ≤ w.heap.size) (hrd : Rd w B Value.bool A m f) (hg : OrdBox w g sz A m c) :
    Calls Try.prog 51 #[.int .i64 a, .int .i64 b, .pointer (some ⟨g, 0, none⟩)] w (Gives (.int .i64 (signI (relB sz m f) a b)) w) := by
  have HC := Lib.hid (sign sz a b A m c B f w hsz ha hb hm hB hrd)
  obtain ⟨hc0, hc1⟩ := hg
  clear hrd hB ha hb hsz
  generalize signI (relB sz m f) a b = r at *
  go_enter Try.func51, Try.ntmps51
  go_wp2_with fail
  refine HC.out.mono ?_
  rintro e w1 ⟨rfl, hb1⟩
  have HB1 := Lib.hid hb1; clear hb1
  go_wp2_with fail
  go_ret
  exact ⟨rfl, HB1.out⟩

theorem infoBool : (Try.prog.info? 4).map (fun i => (i.zero, i.size, i.bytes)) = some (some (.bool false), 1, 1) := by kernel_rfl

/-- A relation of the call's own: the same answers. -/
def NewOrder (w : World) (sz : Int) (m : Nat) (f : Nat → Bool) (e : Ending) (w' : World) : Prop :=
  ∃ A c, e = .returned (.agg #[.int .i64 sz, .slice A m c]) ∧ Rd w' w'.heap.size Value.bool A m f ∧ Below w.heap.size w w'

set_option maxHeartbeats 1000000 in
theorem toOrder (sz : Int) (A : Option Addr) (m c B : Nat) (f : Nat → Bool) (w : World) (hm : m ≤ 140737488351232) (hB : B ≤ w.heap.size) (hrd : Rd w B Value.bool A m f) :
    Calls Try.prog 28 #[.agg #[.int .i64 sz, .slice A m c]] w (NewOrder w sz m f) := by
  obtain ⟨i, hi, hz, hs, hby⟩ := info_parts infoBool
  have HR := Lib.hid hrd; clear hrd
  go_enter Try.func28, Try.ntmps28
  go_wp2_with fail
  have hW : Below w.heap.size w ((w.alloc (.cells #[.int .i64 sz, .slice A m c] 38)).alloc (.cells #[.int .i64 0, .slice none 0 0] 33)) := ((Below.refl _ _).alloc (Nat.le_refl _) _).alloc (by simp) _
  generalize hV : (w.alloc (.cells #[.int .i64 sz, .slice A m c] 38)).alloc (.cells #[.int .i64 0, .slice none 0 0] 33) = V at hW ⊢
  have hS : V.heap.size = w.heap.size + 2 ∧ V.cell? ⟨w.heap.size, 0, none⟩ = some (.int .i64 sz) ∧ V.cell? ⟨w.heap.size, 1, none⟩ = some (.slice A m c) ∧ V.cell? ⟨w.heap.size + 1, 0, none⟩ = some (.int .i64 0) ∧ V.cell? ⟨w.heap.size + 1, 1, none⟩ = some (.slice none 0 0) ∧ V.frozen? ⟨w.heap.size + 1, 0, none⟩ = false ∧ V.frozen? ⟨w.heap.size + 1, 1, none⟩ = false := by
    subst hV
    simp [go_sem]
  clear hV
  obtain ⟨z0, z1, z2, z3, z4, z5, z6⟩ := hS
  have HW := Lib.hid hW; clear hW
  have HB := Lib.hid hB; clear hB
  go_region_held3 (fun w' => w'.cell? ⟨w.heap.size, 0, none⟩ = some (.int .i64 sz) ∧ w'.cell? ⟨w.heap.size, 1, none⟩ = some (.slice A m c))
    (first
      | go_keep
      | (refine ⟨?_, ?_⟩
         · (rw [hcp.2.cell (by simp [z0])]; assumption)
         · (rw [hcp.2.cell (by simp [z0])]; assumption)))
    ((refine step_copy_nil (by rfl) _ _ _ (by rfl) 4 i _ 1 1 Try.underlying31 hi hz hs hby rfl (by omega) A m c (fun j => .bool (f j)) (by rfl) (by rfl) (fun h => by
        obtain ⟨b, off, hA, _, hc⟩ := HR.out.keep HW.out HB.out h
        exact ⟨b, off, hA, fun j hj => hc j (by omega)⟩) (fun j hj => by simp [Value.oneCell']) (by simp [maxLen]; omega) (by omega) ?_; intro v1 w1 hcp; obtain ⟨A1, c1, rfl, hr1⟩ := Copied.rd hcp;
        have y3 := (hcp.2.cell (p := ⟨w.heap.size + 1, 0, none⟩) (by simp [z0])).trans z3;
        have y4 := (hcp.2.cell (p := ⟨w.heap.size + 1, 1, none⟩) (by simp [z0])).trans z4;
        have y5 := (hcp.2.frozen (p := ⟨w.heap.size + 1, 0, none⟩) (by simp [z0])).trans z5;
        have y6 := (hcp.2.frozen (p := ⟨w.heap.size + 1, 1, none⟩) (by simp [z0])).trans z6))
  have HF := Lib.hid (⟨Copied.rd2 hcp (w2 := (w1.setCell ⟨w.heap.size + 1, 0, none⟩ (.int .i64 sz)).setCell ⟨w.heap.size + 1, 1, none⟩ (.slice A1 m c1)) (fun k hk => by
      have hk' : w.heap.size + 2 ≤ k := by rw [← z0]; exact hk
      rw [heap_setCell_other _ _ _ _ (by simp; omega), heap_setCell_other _ _ _ _ (by simp; omega)]),
    (((HW.out.trans (below_drewN (Below.refl _ _) 1)).trans (hcp.2.mono (by show w.heap.size ≤ V.heap.size; omega))).setCell (p := ⟨w.heap.size + 1, 0, none⟩) (by simp) (.int .i64 sz)).setCell (p := ⟨w.heap.size + 1, 1, none⟩) (by simp) (.slice A1 m c1)⟩ : Rd ((w1.setCell ⟨w.heap.size + 1, 0, none⟩ (.int .i64 sz)).setCell ⟨w.heap.size + 1, 1, none⟩ (.slice A1 m c1)) ((w1.setCell ⟨w.heap.size + 1, 0, none⟩ (.int .i64 sz)).setCell ⟨w.heap.size + 1, 1, none⟩ (.slice A1 m c1)).heap.size Value.bool A1 m f ∧ Below w.heap.size w ((w1.setCell ⟨w.heap.size + 1, 0, none⟩ (.int .i64 sz)).setCell ⟨w.heap.size + 1, 1, none⟩ (.slice A1 m c1)))
  clear hcp hr1
  go_wp2_with fail
  exact bodyPost_ret (v := .agg #[.int .i64 sz, .slice A1 m c1]) (by simp [results, Try.results28, go_sem, y3, y4]) rfl ⟨A1, c1, rfl, HF.out.1, HF.out.2⟩
end Go.Proofs.Ytjammaglboehcaa
