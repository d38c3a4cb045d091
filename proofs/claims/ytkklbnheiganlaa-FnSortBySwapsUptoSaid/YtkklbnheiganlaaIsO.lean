/-
  The walks of slices.IsSortedFunc at numbers, of the methods of ordered, and of the law FnIsSortedByOrder.
-/
import Derived.Test.YtkklbnheiganlaaInO
namespace Go.Proofs.Ytkklbnheiganlaa
open Go.RowKit Go.Proofs
set_option linter.unusedVariables false

/-- No element comes before the one ahead of it, by a comparison of indices. -/
def AscC (cm : Nat → Nat → Int) (n : Nat) : Prop := ∀ i, 1 ≤ i → i < n → 0 ≤ cm i (i - 1)


/-! ### ordered -/
/-- The value of a list under a relation. -/
def ordrV (A' : Option Addr) (n c' : Nat) (sz : Int) (A : Option Addr) (m c : Nat) : Value := .agg #[.slice A' n c', .int .i64 sz, .slice A m c]

set_option maxHeartbeats 400000 in
theorem orderedLen (A' : Option Addr) (n c' : Nat) (sz : Int) (A : Option Addr) (m c : Nat) (w : World) :
    Calls Try.prog 152 #[.agg #[.slice A' n c', .int .i64 sz, .slice A m c]] w (Gives (.int .i64 n) w) := by
  have HBel := Lib.hid (fun o => (Below.refl w.heap.size w).alloc (Nat.le_refl _) o)
  go_enter Try.func152, Try.ntmps152
  go_wp2_with fail
  go_ret
  exact ⟨rfl, HBel.out _⟩

set_option maxHeartbeats 1000000 in
set_option maxRecDepth 100000 in
theorem orderedLess (A' : Option Addr) (n c' : Nat) (sz : Int) (A : Option Addr) (m c i j B B' : Nat) (g : Nat → Bool) (f : Nat → Int) (w : World) (hsz : I64 sz) (hm : m ≤ 140737488351232) (hB : B ≤ w.heap.size) (hrd : Rd w B Value.bool A m g)
    (hf64 : ∀ i, I64 (f i)) (hn : n ≤ 4611686018427387903) (hB' : B' ≤ w.heap.size) (hrd' : Rd w B' (Value.int .i64) A' n f) (hi : i < n) (hj : j < n) :
    Calls Try.prog 153 #[.agg #[.slice A' n c', .int .i64 sz, .slice A m c], .int .i64 i, .int .i64 j] w (Gives (.bool (relB sz m g (f i) (f j))) w) := by
  have HBel := Lib.hid (fun o => (Below.refl w.heap.size w).alloc (Nat.le_refl _) o)
  have hR := hrd'.alloc hB' (.cells #[.slice A' n c', .int .i64 sz, .slice A m c] 67)
  obtain ⟨b, off, hA1, _, hx⟩ := hR.at hi
  obtain ⟨b2, off2, hA2, _, hy⟩ := hR.at hj
  have HC := Lib.hid (fun w' (hbel : Below w.heap.size w w') => before sz (f i) (f j) A m c B g w' hsz (hf64 i) (hf64 j) hm (Nat.le_trans hB hbel.size) (hrd.keep hbel hB))
  subst hA1
  simp only [Option.some.injEq, Addr.mk.injEq, and_true] at hA2
  obtain ⟨rfl, rfl⟩ := hA2
  have hil : (i : Int) < (n : Int) := by omega
  have hjl : (j : Int) < (n : Int) := by omega
  clear hrd hrd' hR hB hB' hf64 hsz
  generalize relB sz m g (f i) (f j) = v at *
  go_enter Try.func153, Try.ntmps153
  go_wp2_with fail
  have HB1 := Lib.hid (HBel.out (.cells #[.slice (some ⟨b, off, none⟩) n c', .int .i64 sz, .slice A m c] 67))
  have z0 : (w.alloc (.cells #[.slice (some ⟨b, off, none⟩) n c', .int .i64 sz, .slice A m c] 67)).cell? ⟨w.heap.size, 0, none⟩ = some (.slice (some ⟨b, off, none⟩) n c') := by simp [go_sem]
  have z1 : (w.alloc (.cells #[.slice (some ⟨b, off, none⟩) n c', .int .i64 sz, .slice A m c] 67)).cell? ⟨w.heap.size, 1, none⟩ = some (.int .i64 sz) := by simp [go_sem]
  have z2 : (w.alloc (.cells #[.slice (some ⟨b, off, none⟩) n c', .int .i64 sz, .slice A m c] 67)).cell? ⟨w.heap.size, 2, none⟩ = some (.slice A m c) := by simp [go_sem]
  clear HBel
  generalize w.alloc (.cells #[.slice (some ⟨b, off, none⟩) n c', .int .i64 sz, .slice A m c] 67) = V at *
  go_still_tail 12, (by kernel_rfl)
  change wpList _ _ _ _ _ (V.drewN 1)
  go_wp2_with fail
  refine (HC.out _ (below_drewN HB1.out 1)).mono ?_
  rintro e w2 ⟨rfl, hb2⟩
  have HB2 := Lib.hid ((below_drewN HB1.out 1).trans (hb2.mono (below_drewN HB1.out 1).size)); clear hb2
  go_wp2_with fail
  go_ret
  exact ⟨rfl, HB2.out⟩

theorem ordered_len (v : Array Value) (w : World) : (method 262 67 (.agg v) "Len").run Try.prog w = .ok (152, .agg v) w := by kernel_rfl
theorem ordered_less (v : Array Value) (w : World) : (method 262 67 (.agg v) "Less").run Try.prog w = .ok (153, .agg v) w := by kernel_rfl
theorem ordered_en : ∀ args w, (callFunc 152 args).run Try.prog w = .ok (.enter 152 args) w := enters_of Try.func152 (by kernel_rfl) rfl
theorem ordered_el : ∀ args w, (callFunc 153 args).run Try.prog w = .ok (.enter 153 args) w := enters_of Try.func153 (by kernel_rfl) rfl
end Go.Proofs.Ytkklbnheiganlaa
