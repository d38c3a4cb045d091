/-
  The walks of slices.IsSortedFunc at numbers, of the methods of ordered, and of the law FnIsSortedByOrder.
-/
import Derived.Test.YtjammaglboehcaaInO
namespace Go.Proofs.Ytjammaglboehcaa
open Go.RowKit Go.Proofs
set_option linter.unusedVariables false

/-- No element comes before the one ahead of it, by a comparison of indices. -/
def AscC (cm : Nat → Nat → Int) (n : Nat) : Prop := ∀ i, 1 ≤ i → i < n → 0 ≤ cm i (i - 1)

set_option maxHeartbeats 1000000 in
set_option maxRecDepth 100000 in
theorem isSortedFunc (g : Nat) (cb : Array Value) (A : Option Addr) (n c B : Nat) (f : Nat → Int) (cm : Nat → Nat → Int) (R : World → Prop) (w : World) (hn : n ≤ 4611686018427387903)
    (eg : ∀ args w, (callFunc g args).run Try.prog w = .ok (.enter g args) w)
    (hf : ∀ w i j, i < n → j < n → R w → Calls Try.prog g (#[.int .i64 (f i), .int .i64 (f j)] ++ cb) w fun e w' => e = .returned (.int .i64 (cm i j)) ∧ R w')
    (hq : ∀ w q, R w → R (w.drewN q)) (hrd : ∀ w, R w → Rd w B (Value.int .i64) A n f) (h0 : R w) :
    Calls Try.prog 55 #[.slice A n c, .func (.func g) #[] cb] w (TellsR (AscC cm n) R) := by
  have H0 := Lib.hid h0; have HQ := Lib.hid hq; have HL := Lib.hid hf; have HR := Lib.hid hrd; clear h0 hq hf hrd
  go_enter Try.func55, Try.ntmps55
  go_wp2_with fail
  go_loopw [5] (fun vi wr => ∃ k : Nat, k ≤ n ∧ vi = .int .i64 ((k : Int) - 1) ∧ Hid (R wr ∧ ∀ i, 1 ≤ i → k ≤ i → i < n → 0 ≤ cm i (i - 1))) (fun vi _ => (intOf vi).toNat)
  case atStart => exact ⟨n, Nat.le_refl _, rfl, H0.out, fun i h1 h2 h3 => absurd h3 (by omega)⟩
  case round =>
    obtain ⟨k, hk, rfl, HI⟩ := hrel
    by_cases hlt : 2 ≤ k
    · obtain ⟨j, rfl⟩ : ∃ j, k = j + 2 := ⟨k - 2, by omega⟩
      rw [show ((j + 2 : Nat) : Int) - 1 = ((j + 1 : Nat) : Int) by omega]
      have hc := HL.out (wr.drewN 1) (j + 1) j (by omega) (by omega) (HQ.out _ 1 HI.out.1)
      have hpos : ((j + 1 : Nat) : Int) > 0 := by omega
      obtain ⟨b, off, rfl, _, hx⟩ := (HR.out _ HI.out.1).at (show j + 1 < n by omega)
      obtain ⟨b2, off2, hA2, _, hy⟩ := (HR.out _ HI.out.1).at (show j < n by omega)
      simp only [Option.some.injEq, Addr.mk.injEq, and_true] at hA2
      obtain ⟨rfl, rfl⟩ := hA2
      have hj1n : j + 1 < n := by omega
      have hj10 : 1 ≤ j + 1 := by omega
      have hwr : IntKind.i64.wrap (((j + 1 : Nat) : Int) - 1) = ((j + 1 : Nat) : Int) - 1 := IntWalk.i64_in _ (by omega)
      have hto : (((j + 1 : Nat) : Int) - 1).toNat = j := by omega
      have hb1 : ((j + 1 : Nat) : Int) < (n : Int) := by omega
      have hb2 : 0 ≤ ((j + 1 : Nat) : Int) - 1 := by omega
      have hb3 : ((j + 1 : Nat) : Int) - 1 < (n : Int) := by omega
      have hb4 : (1 : Int) ≤ ((j + 1 : Nat) : Int) := by omega
      have hnat : j + 1 - 1 = j := by omega
      generalize hj1 : j + 1 = j1 at *
      have HJ := Lib.hid hj1; clear hj1
      generalize hv : cm j1 j = v at hc
      have HC := Lib.hid hc; have HV := Lib.hid hv; clear hc hv
      by_cases hneg : v < 0
      · have hd : decide (v < 0) = true := decide_eq_true hneg
        go_wp2_with fail
        go_still_tail 10, (by kernel_rfl)
        change wpList _ _ _ _ _ (wr.drewN 1)
        go_wp2_with fail
        refine HC.out.mono ?_
        rintro e w2 ⟨rfl, hR2⟩
        have HR2 := Lib.hid hR2; clear hR2
        go_wp2_with fail
        go_ret
        exact ⟨false, rfl, ⟨(fun h => by cases h), (fun h => by have := h j1 (by omega) (by omega); rw [show j1 - 1 = j by have := HJ.out; omega, HV.out] at this; omega)⟩, HR2.out⟩
      · have hd : decide (v < 0) = false := decide_eq_false hneg
        go_wp2_with fail
        go_still_tail 10, (by kernel_rfl)
        change wpList _ _ _ _ _ (wr.drewN 1)
        go_wp2_with fail
        refine HC.out.mono ?_
        rintro e w2 ⟨rfl, hR2⟩
        have HR2 := Lib.hid hR2; clear hR2
        go_wp2_with fail
        go_roundw
        case rel => exact ⟨j1, by omega, by go_num, HR2.out, fun i a b c => by
          rcases Nat.lt_or_ge i (j + 2) with h | h
          · obtain rfl : i = j1 := by have := HJ.out; omega
            rw [show i - 1 = j by have := HJ.out; omega, HV.out]; omega
          · exact HI.out.2 i a h c⟩
        case measure => simp [intOf]; omega
    · have hle : ¬ ((k : Int) - 1 > 0) := by omega
      go_wp2_with fail
      go_ret
      exact ⟨true, rfl, ⟨fun _ => fun i a b => HI.out.2 i a (by omega) b, fun _ => rfl⟩, HI.out.1⟩

/-! ### ordered -/
/-- The value of a list under a relation. -/
def ordrV (A' : Option Addr) (n c' : Nat) (sz : Int) (A : Option Addr) (m c : Nat) : Value := .agg #[.slice A' n c', .int .i64 sz, .slice A m c]

set_option maxHeartbeats 400000 in
theorem orderedLen (A' : Option Addr) (n c' : Nat) (sz : Int) (A : Option Addr) (m c : Nat) (w : World) :
    Calls Try.prog 171 #[.agg #[.slice A' n c', .int .i64 sz, .slice A m c]] w (Gives (.int .i64 n) w) := by
  have HBel := Lib.hid (fun o => (Below.refl w.heap.size w).alloc (Nat.le_refl _) o)
  go_enter Try.func171, Try.ntmps171
  go_wp2_with fail
  go_ret
  exact ⟨rfl, HBel.out _⟩

set_option maxHeartbeats 1000000 in
set_option maxRecDepth 100000 in
theorem orderedLess (A' : Option Addr) (n c' : Nat) (sz : Int) (A : Option Addr) (m c i j B B' : Nat) (g : Nat → Bool) (f : Nat → Int) (w : World) (hsz : I64 sz) (hm : m ≤ 140737488351232) (hB : B ≤ w.heap.size) (hrd : Rd w B Value.bool A m g)
    (hf64 : ∀ i, I64 (f i)) (hn : n ≤ 4611686018427387903) (hB' : B' ≤ w.heap.size) (hrd' : Rd w B' (Value.int .i64) A' n f) (hi : i < n) (hj : j < n) :
    Calls Try.prog 172 #[.agg #[.slice A' n c', .int .i64 sz, .slice A m c], .int .i64 i, .int .i64 j] w (Gives (.bool (relB sz m g (f i) (f j))) w) := by
  have HBel := Lib.hid (fun o => (Below.refl w.heap.size w).alloc (Nat.le_refl _) o)
  have hR := hrd'.alloc hB' (.cells #[.slice A' n c', .int .i64 sz, .slice A m c] 62)
  obtain ⟨b, off, hA1, _, hx⟩ := hR.at hi
  obtain ⟨b2, off2, hA2, _, hy⟩ := hR.at hj
  have HC := Lib.hid (fun w' (hbel : Below w.heap.size w w') => before sz (f i) (f j) A m c B g w' hsz (hf64 i) (hf64 j) hm (Nat.le_trans hB hbel.size) (hrd.keep hbel hB))
  subst hA1
  simp only [Option.some.injEq, Addr.mk.injEq, and_true] at hA2
  obtain ⟨rfl, rfl⟩ := hA2
  have hil : (i : Int) < (n : Int) := by omega
  have hjl : (j : Int) < (n : Int) := by omega
  clear hrd hrd' hR hB hB' hf64 hsz
  generalize relB sz m g (f i) (f j) = v at *
  go_enter Try.func172, Try.ntmps172
  go_wp2_with fail
  have HB1 := Lib.hid (HBel.out (.cells #[.slice (some ⟨b, off, none⟩) n c', .int .i64 sz, .slice A m c] 62))
  have z0 : (w.alloc (.cells #[.slice (some ⟨b, off, none⟩) n c', .int .i64 sz, .slice A m c] 62)).cell? ⟨w.heap.size, 0, none⟩ = some (.slice (some ⟨b, off, none⟩) n c') := by simp [go_sem]
  have z1 : (w.alloc (.cells #[.slice (some ⟨b, off, none⟩) n c', .int .i64 sz, .slice A m c] 62)).cell? ⟨w.heap.size, 1, none⟩ = some (.int .i64 sz) := by simp [go_sem]
  have z2 : (w.alloc (.cells #[.slice (some ⟨b, off, none⟩) n c', .int .i64 sz, .slice A m c] 62)).cell? ⟨w.heap.size, 2, none⟩ = some (.slice A m c) := by simp [go_sem]
  clear HBel
  generalize w.alloc (.cells #[.slice (some ⟨b, off, none⟩) n c', .int .i64 sz, .slice A m c] 62) = V at *
  go_still_tail 12, (by kernel_rfl)
  change wpList _ _ _ _ _ (V.drewN 1)
  go_wp2_with fail
  refine (HC.out _ (below_drewN HB1.out 1)).mono ?_
  rintro e w2 ⟨rfl, hb2⟩
  have HB2 := Lib.hid ((below_drewN HB1.out 1).trans (hb2.mono (below_drewN HB1.out 1).size)); clear hb2
  go_wp2_with fail
  go_ret
  exact ⟨rfl, HB2.out⟩

theorem ordered_len (v : Array Value) (w : World) : (method 266 62 (.agg v) "Len").run Try.prog w = .ok (171, .agg v) w := by kernel_rfl
theorem ordered_less (v : Array Value) (w : World) : (method 266 62 (.agg v) "Less").run Try.prog w = .ok (172, .agg v) w := by kernel_rfl
theorem ordered_en : ∀ args w, (callFunc 171 args).run Try.prog w = .ok (.enter 171 args) w := enters_of Try.func171 (by kernel_rfl) rfl
theorem ordered_el : ∀ args w, (callFunc 172 args).run Try.prog w = .ok (.enter 172 args) w := enters_of Try.func172 (by kernel_rfl) rfl
end Go.Proofs.Ytjammaglboehcaa
