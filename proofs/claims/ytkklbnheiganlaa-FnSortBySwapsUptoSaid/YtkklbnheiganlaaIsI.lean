/-
  The walks of sort.IsSorted at the interface, of the methods of keyed, of impl's and the reference's functions on sorted items, and of the law FnExactSortIsSortedItems.
-/
import Derived.Test.YtkklbnheiganlaaProg
import Derived.Test.YtkklbnheiganlaaItm
import Derived.Test.YtkklbnheiganlaaAsc
namespace Go.Proofs.Ytkklbnheiganlaa
open Go.RowKit Go.Proofs
set_option linter.unusedVariables false


/-- A call that tells whether p, and keeps R. -/
def TellsR (p : Prop) (R : World → Prop) (e : Ending) (w' : World) : Prop := ∃ b : Bool, e = .returned (.bool b) ∧ (b = true ↔ p) ∧ R w'


/-! ### keyed: items by their keys -/
set_option maxHeartbeats 400000 in
theorem keyedLen (A : Option Addr) (n c : Nat) (w : World) : Calls Try.prog 155 #[.slice A n c] w fun e w' => e = .returned (.int .i64 n) ∧ ∃ q, w' = w.drewN q := by
  go_enter Try.func155, Try.ntmps155
  go_wp2
  go_ret
  exact ⟨rfl, 0, rfl⟩

set_option maxHeartbeats 1000000 in
theorem keyedLess (A : Option Addr) (n c i j B : Nat) (f : Nat → Int × Int) (w : World) (hn : n ≤ 4611686018427387903) (hi : i < n) (hj : j < n) (hrd : RdI w B A n f) :
    Calls Try.prog 156 #[.slice A n c, .int .i64 i, .int .i64 j] w fun e w' => e = .returned (.bool (decide ((f i).1 < (f j).1))) ∧ ∃ q, w' = w.drewN q := by
  obtain ⟨b, off, rfl, _, hc, _⟩ := hrd.at hi
  obtain ⟨b', off', h', _, hc', _⟩ := hrd.at hj
  simp only [Option.some.injEq, Addr.mk.injEq, and_true] at h'
  obtain ⟨rfl, rfl⟩ := h'
  clear hrd
  generalize (f i).1 = x at hc ⊢
  generalize (f j).1 = y at hc' ⊢
  have hiz : (i : Int) < (n : Int) := by omega
  have hjz : (j : Int) < (n : Int) := by omega
  go_enter Try.func156, Try.ntmps156
  go_wp2
  go_quiet (fail)
  go_wp2
  go_ret
  exact ⟨rfl, _, rfl⟩

theorem keyed_len (A : Option Addr) (n c : Nat) (w : World) : (method 262 71 (.slice A n c) "Len").run Try.prog w = .ok (155, .slice A n c) w := by kernel_rfl
theorem keyed_less (A : Option Addr) (n c : Nat) (w : World) : (method 262 71 (.slice A n c) "Less").run Try.prog w = .ok (156, .slice A n c) w := by kernel_rfl
theorem keyed_en : ∀ args w, (callFunc 155 args).run Try.prog w = .ok (.enter 155 args) w := enters_of Try.func155 (by kernel_rfl) rfl
theorem keyed_el : ∀ args w, (callFunc 156 args).run Try.prog w = .ok (.enter 156 args) w := enters_of Try.func156 (by kernel_rfl) rfl

end Go.Proofs.Ytkklbnheiganlaa
