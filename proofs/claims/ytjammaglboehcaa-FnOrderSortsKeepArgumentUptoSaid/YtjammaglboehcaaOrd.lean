/-
  The walks of the functions on relations: comes, before, sign, toOrder.
-/
import Derived.Test.YtjammaglboehcaaProg
import Derived.Test.YtjammaglboehcaaOrdW
import Derived.StillTailTactics
namespace Go.Proofs.Ytjammaglboehcaa
open Go.RowKit Go.Proofs
set_option linter.unusedVariables false

/-- A call that returns v and keeps memory. -/
def Gives (v : Value) (w : World) (e : Ending) (w' : World) : Prop := e = .returned v ∧ Below w.heap.size w w'

set_option maxHeartbeats 2000000 in
theorem comes (sz a b : Int) (A : Option Addr) (m c B : Nat) (f : Nat → Bool) (w : World) (hsz : I64 sz) (ha : I64 a) (hb : I64 b) (hm : m ≤ 140737488351232) (hB : B ≤ w.heap.size) (hrd : Rd w B Value.bool A m f) :
    Calls Try.prog 54 #[.agg #[.int .i64 sz, .slice A m c], .int .i64 a, .int .i64 b] w (Gives (.bool (relB sz m f a b)) w) := by
  unfold I64 at hsz ha hb
  have hbel : ∀ o, Below w.heap.size w (w.alloc o) := fun o => (Below.refl _ _).alloc (Nat.le_refl _) o
  have HBel := Lib.hid hbel; clear hbel
  by_cases h0 : 0 ≤ a ∧ 0 ≤ b ∧ a < sz ∧ b < sz
  · obtain ⟨h1, h2, h3, h4⟩ := h0
    obtain ⟨k, rfl⟩ := Int.eq_ofNat_of_zero_le h1
    have HR := Lib.hid (fun o => hrd.alloc hB o); clear hrd hB
    go_enter Try.func54, Try.ntmps54
    have hn2 : ¬ (b < 0) := by omega
    have hn3 : ¬ ((k : Int) ≥ sz) := by omega
    have hn4 : ¬ (b ≥ sz) := by omega
    go_wp2_with fail
    go_loop [7, 8] (fun vx vj => ∃ (x : Int) (j : Nat), j ≤ k ∧ vx = .int .i64 x ∧ vj = .int .i64 j ∧ 0 ≤ x ∧ (x < m ∨ x = b) ∧ Hid (x = b + j * sz)) (fun _ vj => k - (intOf vj).toNat)
    case atStart => exact ⟨b, 0, Nat.zero_le _, rfl, rfl, h2, .inr rfl, Lib.hid (by simp)⟩
    case round =>
      obtain ⟨x, j, hj, rfl, rfl, hx0, hxm, HX⟩ := hrel
      have hw1 : IntKind.i64.wrap ((m : Int) - sz) = (m : Int) - sz := IntWalk.i64_in _ (by omega)
      by_cases hjk : j < k
      · by_cases hge : x ≥ (m : Int) - sz
        · have HF : Hid (relB sz m f k b = false) := Lib.hid (relB_false fun h => by
            have h5 := h.2.2.2.2
            have h6 := HX.out
            have h7 : ((j : Int) + 1) * sz ≤ (k : Int) * sz := Int.mul_le_mul_of_nonneg_right (by omega) (by omega)
            rw [Int.add_mul] at h7
            omega)
          go_wp2_with fail
          go_ret
          exact ⟨by rw [HF.out]; rfl, HBel.out _⟩
        · have hw2 : IntKind.i64.wrap (x + sz) = x + sz := IntWalk.i64_in _ (by omega)
          have HW := Lib.hid hw2
          go_wp2_with fail
          go_round
          case rel => exact ⟨x + sz, j + 1, hjk, rfl, by go_num, by omega, .inl (by omega), Lib.hid (by have h6 := HX.out; rw [Int.natCast_add, Int.add_mul]; simp only [Int.natCast_one, Int.one_mul]; omega)⟩
          case measure => simp [intOf]; omega
      · obtain rfl : j = k := by omega
        by_cases hat : x < (m : Int)
        · obtain ⟨y, rfl⟩ := Int.eq_ofNat_of_zero_le hx0
          obtain ⟨bb, off, rfl, _, hc⟩ := (HR.out (.cells #[.int .i64 sz, .slice A m c] 38)).at (i := y) (by omega)
          have HF : Hid (relB sz m f j b = f y) := Lib.hid (by
            rw [relB_true ⟨h1, h2, h3, h4, by have := HX.out; omega⟩]
            congr 1
            have := HX.out
            rw [Int.add_comm, ← this]; simp)
          go_wp2_with fail
          go_ret
          exact ⟨by rw [HF.out]; rfl, HBel.out _⟩
        · have HF : Hid (relB sz m f j b = false) := Lib.hid (relB_false fun h => by
            have h5 := h.2.2.2.2
            have h6 := HX.out
            omega)
          go_wp2_with fail
          go_ret
          exact ⟨by rw [HF.out]; rfl, HBel.out _⟩
  · rw [relB_false (fun h => h0 ⟨h.1, h.2.1, h.2.2.1, h.2.2.2.1⟩)]
    clear hrd hB
    go_enter Try.func54, Try.ntmps54
    go_wp2_with fail
    all_goals first | (exfalso; omega) | (go_ret; exact ⟨rfl, HBel.out _⟩)

set_option maxHeartbeats 1000000 in
theorem before_out1 (sz a b : Int) (A : Option Addr) (m c : Nat) (w : World) (h0 : a < 0) :
    Calls Try.prog 69 #[.agg #[.int .i64 sz, .slice A m c], .int .i64 a, .int .i64 b] w (Gives (.bool false) w) := by
  have HBel := Lib.hid (fun o => (Below.refl w.heap.size w).alloc (Nat.le_refl _) o)
  have hd0 : decide (a < 0) = true := decide_eq_true (by omega)
  clear h0
  go_enter Try.func69, Try.ntmps69
  go_wp2_with fail
  go_quiet (fail)
  go_wp2_with fail
  go_ret
  exact ⟨rfl, below_drewN (HBel.out _) _⟩

set_option maxHeartbeats 1000000 in
theorem before_out2 (sz a b : Int) (A : Option Addr) (m c : Nat) (w : World) (h0 : ¬ a < 0) (h1 : b < 0) :
    Calls Try.prog 69 #[.agg #[.int .i64 sz, .slice A m c], .int .i64 a, .int .i64 b] w (Gives (.bool false) w) := by
  have HBel := Lib.hid (fun o => (Below.refl w.heap.size w).alloc (Nat.le_refl _) o)
  have hd0 : decide (a < 0) = false := decide_eq_false (by omega)
  have hd1 : decide (b < 0) = true := decide_eq_true (by omega)
  clear h0 h1
  go_enter Try.func69, Try.ntmps69
  go_wp2_with fail
  go_quiet (fail)
  go_wp2_with fail
  go_ret
  exact ⟨rfl, below_drewN (HBel.out _) _⟩

set_option maxHeartbeats 1000000 in
theorem before_out3 (sz a b : Int) (A : Option Addr) (m c : Nat) (w : World) (h0 : ¬ a < 0) (h1 : ¬ b < 0) (h2 : sz ≤ a) :
    Calls Try.prog 69 #[.agg #[.int .i64 sz, .slice A m c], .int .i64 a, .int .i64 b] w (Gives (.bool false) w) := by
  have HBel := Lib.hid (fun o => (Below.refl w.heap.size w).alloc (Nat.le_refl _) o)
  have hd0 : decide (a < 0) = false := decide_eq_false (by omega)
  have hd1 : decide (b < 0) = false := decide_eq_false (by omega)
  have hd2 : decide (sz ≤ a) = true := decide_eq_true (by omega)
  clear h0 h1 h2
  go_enter Try.func69, Try.ntmps69
  go_wp2_with fail
  go_quiet (fail)
  go_wp2_with fail
  go_ret
  exact ⟨rfl, below_drewN (HBel.out _) _⟩

set_option maxHeartbeats 1000000 in
theorem before_out4 (sz a b : Int) (A : Option Addr) (m c : Nat) (w : World) (h0 : ¬ a < 0) (h1 : ¬ b < 0) (h2 : ¬ sz ≤ a) (h3 : sz ≤ b) :
    Calls Try.prog 69 #[.agg #[.int .i64 sz, .slice A m c], .int .i64 a, .int .i64 b] w (Gives (.bool false) w) := by
  have HBel := Lib.hid (fun o => (Below.refl w.heap.size w).alloc (Nat.le_refl _) o)
  have hd0 : decide (a < 0) = false := decide_eq_false (by omega)
  have hd1 : decide (b < 0) = false := decide_eq_false (by omega)
  have hd2 : decide (sz ≤ a) = false := decide_eq_false (by omega)
  have hd3 : decide (sz ≤ b) = true := decide_eq_true (by omega)
  clear h0 h1 h2 h3
  go_enter Try.func69, Try.ntmps69
  go_wp2_with fail
  go_quiet (fail)
  go_wp2_with fail
  go_ret
  exact ⟨rfl, below_drewN (HBel.out _) _⟩

set_option maxHeartbeats 1000000 in
theorem before_out5 (sz a b : Int) (A : Option Addr) (m c : Nat) (w : World) (h0 : ¬ a < 0) (h1 : ¬ b < 0) (h2 : ¬ sz ≤ a) (h3 : ¬ sz ≤ b) (hm : m ≤ 140737488351232) (h5 : 0 < a) (h6 : (m : Int) / a < sz) :
    Calls Try.prog 69 #[.agg #[.int .i64 sz, .slice A m c], .int .i64 a, .int .i64 b] w (Gives (.bool false) w) := by
  have HBel := Lib.hid (fun o => (Below.refl w.heap.size w).alloc (Nat.le_refl _) o)
  have hd0 : decide (a < 0) = false := decide_eq_false (by omega)
  have hd1 : decide (b < 0) = false := decide_eq_false (by omega)
  have hd2 : decide (sz ≤ a) = false := decide_eq_false (by omega)
  have hd3 : decide (sz ≤ b) = false := decide_eq_false (by omega)
  have hd5 : decide (0 < a) = true := decide_eq_true h5
  have hq : IntKind.i64.wrap ((m : Int) / a) = (m : Int) / a := IntWalk.i64_in _ (by have := IntWalk.tdiv_le (m : Int) a (by omega) (by omega); omega)
  have hd6 : decide ((m : Int) / a < sz) = true := decide_eq_true h6
  have ha0 : (a == 0) = false := by simp; omega
  have ha1 : ¬ (a = 0) := by omega
  go_enter Try.func69, Try.ntmps69
  go_wp2_with fail
  go_quiet (fail)
  go_wp2_with fail
  go_ret
  exact ⟨rfl, below_drewN (HBel.out _) _⟩

set_option maxHeartbeats 1000000 in
theorem before_out6 (sz a b : Int) (A : Option Addr) (m c : Nat) (w : World) (h0 : ¬ a < 0) (h1 : ¬ b < 0) (h2 : ¬ sz ≤ a) (h3 : ¬ sz ≤ b) (hm : m ≤ 140737488351232) (h5 : 0 < a) (h6 : ¬ (m : Int) / a < sz) (hw1 : IntKind.i64.wrap (a * sz) = a * sz) (hw2 : IntKind.i64.wrap (a * sz + b) = a * sz + b) (h7 : (m : Int) ≤ a * sz + b) :
    Calls Try.prog 69 #[.agg #[.int .i64 sz, .slice A m c], .int .i64 a, .int .i64 b] w (Gives (.bool false) w) := by
  have HBel := Lib.hid (fun o => (Below.refl w.heap.size w).alloc (Nat.le_refl _) o)
  have hd0 : decide (a < 0) = false := decide_eq_false (by omega)
  have hd1 : decide (b < 0) = false := decide_eq_false (by omega)
  have hd2 : decide (sz ≤ a) = false := decide_eq_false (by omega)
  have hd3 : decide (sz ≤ b) = false := decide_eq_false (by omega)
  have hd5 : decide (0 < a) = true := decide_eq_true h5
  have hq : IntKind.i64.wrap ((m : Int) / a) = (m : Int) / a := IntWalk.i64_in _ (by have := IntWalk.tdiv_le (m : Int) a (by omega) (by omega); omega)
  have hd6 : decide ((m : Int) / a < sz) = false := decide_eq_false h6
  have ha0 : (a == 0) = false := by simp; omega
  have ha1 : ¬ (a = 0) := by omega
  have hd7 : decide ((m : Int) ≤ a * sz + b) = true := decide_eq_true h7
  go_enter Try.func69, Try.ntmps69
  go_wp2_with fail
  go_quiet (fail)
  go_wp2_with fail
  go_ret
  exact ⟨rfl, below_drewN (HBel.out _) _⟩

set_option maxHeartbeats 1000000 in
theorem before_in6 (sz a b : Int) (A : Option Addr) (m c B : Nat) (f : Nat → Bool) (w : World) (h0 : ¬ a < 0) (h1 : ¬ b < 0) (h2 : ¬ sz ≤ a) (h3 : ¬ sz ≤ b) (hm : m ≤ 140737488351232) (h5 : 0 < a) (h6 : ¬ (m : Int) / a < sz) (hw1 : IntKind.i64.wrap (a * sz) = a * sz) (hw2 : IntKind.i64.wrap (a * sz + b) = a * sz + b) (h7 : ¬ (m : Int) ≤ a * sz + b) (hB : B ≤ w.heap.size) (hrd : Rd w B Value.bool A m f) :
    Calls Try.prog 69 #[.agg #[.int .i64 sz, .slice A m c], .int .i64 a, .int .i64 b] w (Gives (.bool (f (a * sz + b).toNat)) w) := by
  have HBel := Lib.hid (fun o => (Below.refl w.heap.size w).alloc (Nat.le_refl _) o)
  have hnn : 0 ≤ a * sz + b := by have := Int.mul_nonneg (show 0 ≤ a by omega) (show 0 ≤ sz by omega); omega
  obtain ⟨bb, off, rfl, _, hc⟩ := (hrd.alloc hB (.cells #[.int .i64 sz, .slice A m c] 33)).at (i := (a * sz + b).toNat) (by omega)
  clear hrd hB
  have hd0 : decide (a < 0) = false := decide_eq_false (by omega)
  have hd1 : decide (b < 0) = false := decide_eq_false (by omega)
  have hd2 : decide (sz ≤ a) = false := decide_eq_false (by omega)
  have hd3 : decide (sz ≤ b) = false := decide_eq_false (by omega)
  have hd5 : decide (0 < a) = true := decide_eq_true h5
  have hq : IntKind.i64.wrap ((m : Int) / a) = (m : Int) / a := IntWalk.i64_in _ (by have := IntWalk.tdiv_le (m : Int) a (by omega) (by omega); omega)
  have hd6 : decide ((m : Int) / a < sz) = false := decide_eq_false h6
  have ha0 : (a == 0) = false := by simp; omega
  have ha1 : ¬ (a = 0) := by omega
  have hd7 : decide ((m : Int) ≤ a * sz + b) = false := decide_eq_false h7
  have hlt : a * sz + b < (m : Int) := by omega
  go_enter Try.func69, Try.ntmps69
  go_wp2_with fail
  go_quiet (fail)
  go_wp2_with fail
  first | go_ret | (go_quiet (fail); go_wp2_with fail; go_ret)
  first | exact ⟨rfl, below_drewN (HBel.out _) _⟩ | exact ⟨rfl, below_drewN (below_drewN (HBel.out _) _) _⟩

set_option maxHeartbeats 1000000 in
theorem before_out7 (sz a b : Int) (A : Option Addr) (m c : Nat) (w : World) (h0 : ¬ a < 0) (h1 : ¬ b < 0) (h2 : ¬ sz ≤ a) (h3 : ¬ sz ≤ b) (hm : m ≤ 140737488351232) (h5 : ¬ 0 < a) (hw1 : IntKind.i64.wrap (a * sz) = a * sz) (hw2 : IntKind.i64.wrap (a * sz + b) = a * sz + b) (h7 : (m : Int) ≤ a * sz + b) :
    Calls Try.prog 69 #[.agg #[.int .i64 sz, .slice A m c], .int .i64 a, .int .i64 b] w (Gives (.bool false) w) := by
  have HBel := Lib.hid (fun o => (Below.refl w.heap.size w).alloc (Nat.le_refl _) o)
  have hd0 : decide (a < 0) = false := decide_eq_false (by omega)
  have hd1 : decide (b < 0) = false := decide_eq_false (by omega)
  have hd2 : decide (sz ≤ a) = false := decide_eq_false (by omega)
  have hd3 : decide (sz ≤ b) = false := decide_eq_false (by omega)
  have hd5 : decide (0 < a) = false := decide_eq_false h5
  have hd7 : decide ((m : Int) ≤ a * sz + b) = true := decide_eq_true h7
  go_enter Try.func69, Try.ntmps69
  go_wp2_with fail
  go_quiet (fail)
  go_wp2_with fail
  go_ret
  exact ⟨rfl, below_drewN (HBel.out _) _⟩

set_option maxHeartbeats 1000000 in
theorem before_in7 (sz a b : Int) (A : Option Addr) (m c B : Nat) (f : Nat → Bool) (w : World) (h0 : ¬ a < 0) (h1 : ¬ b < 0) (h2 : ¬ sz ≤ a) (h3 : ¬ sz ≤ b) (hm : m ≤ 140737488351232) (h5 : ¬ 0 < a) (hw1 : IntKind.i64.wrap (a * sz) = a * sz) (hw2 : IntKind.i64.wrap (a * sz + b) = a * sz + b) (h7 : ¬ (m : Int) ≤ a * sz + b) (hB : B ≤ w.heap.size) (hrd : Rd w B Value.bool A m f) :
    Calls Try.prog 69 #[.agg #[.int .i64 sz, .slice A m c], .int .i64 a, .int .i64 b] w (Gives (.bool (f (a * sz + b).toNat)) w) := by
  have HBel := Lib.hid (fun o => (Below.refl w.heap.size w).alloc (Nat.le_refl _) o)
  have hnn : 0 ≤ a * sz + b := by have := Int.mul_nonneg (show 0 ≤ a by omega) (show 0 ≤ sz by omega); omega
  obtain ⟨bb, off, rfl, _, hc⟩ := (hrd.alloc hB (.cells #[.int .i64 sz, .slice A m c] 33)).at (i := (a * sz + b).toNat) (by omega)
  clear hrd hB
  have hd0 : decide (a < 0) = false := decide_eq_false (by omega)
  have hd1 : decide (b < 0) = false := decide_eq_false (by omega)
  have hd2 : decide (sz ≤ a) = false := decide_eq_false (by omega)
  have hd3 : decide (sz ≤ b) = false := decide_eq_false (by omega)
  have hd5 : decide (0 < a) = false := decide_eq_false h5
  have hd7 : decide ((m : Int) ≤ a * sz + b) = false := decide_eq_false h7
  have hlt : a * sz + b < (m : Int) := by omega
  go_enter Try.func69, Try.ntmps69
  go_wp2_with fail
  go_quiet (fail)
  go_wp2_with fail
  first | go_ret | (go_quiet (fail); go_wp2_with fail; go_ret)
  first | exact ⟨rfl, below_drewN (HBel.out _) _⟩ | exact ⟨rfl, below_drewN (below_drewN (HBel.out _) _) _⟩

theorem before (sz a b : Int) (A : Option Addr) (m c B : Nat) (f : Nat → Bool) (w : World) (hsz : I64 sz) (ha : I64 a) (hb : I64 b) (hm : m ≤ 140737488351232) (hB : B ≤ w.heap.size) (hrd : Rd w B Value.bool A m f) :
    Calls Try.prog 69 #[.agg #[.int .i64 sz, .slice A m c], .int .i64 a, .int .i64 b] w (Gives (.bool (relB sz m f a b)) w) := by
  unfold I64 at hsz ha hb
  by_cases h0 : a < 0
  · rw [relB_false (fun h => by omega)]; exact before_out1 sz a b A m c w h0
  by_cases h1 : b < 0
  · rw [relB_false (fun h => by omega)]; exact before_out2 sz a b A m c w h0 h1
  by_cases h2 : sz ≤ a
  · rw [relB_false (fun h => by omega)]; exact before_out3 sz a b A m c w h0 h1 h2
  by_cases h3 : sz ≤ b
  · rw [relB_false (fun h => by omega)]; exact before_out4 sz a b A m c w h0 h1 h2 h3
  by_cases h5 : 0 < a
  · have hdv : (m : Int) / a < sz ↔ (m : Int) < a * sz := by rw [Int.ediv_lt_iff_lt_mul h5, Int.mul_comm]
    by_cases h6 : (m : Int) / a < sz
    · rw [relB_false (fun h => by have := hdv.1 h6; omega)]; exact before_out5 sz a b A m c w h0 h1 h2 h3 hm h5 h6
    · have hle : a * sz ≤ (m : Int) := by have := mt hdv.2 h6; omega
      have h8 : 1 * sz ≤ a * sz := Int.mul_le_mul_of_nonneg_right (by omega) (by omega)
      have hw1 : IntKind.i64.wrap (a * sz) = a * sz := IntWalk.i64_in _ (by omega)
      have hw2 : IntKind.i64.wrap (a * sz + b) = a * sz + b := IntWalk.i64_in _ (by omega)
      by_cases h7 : (m : Int) ≤ a * sz + b
      · rw [relB_false (fun h => by omega)]; exact before_out6 sz a b A m c w h0 h1 h2 h3 hm h5 h6 hw1 hw2 h7
      · rw [relB_true (by omega)]; exact before_in6 sz a b A m c B f w h0 h1 h2 h3 hm h5 h6 hw1 hw2 h7 hB hrd
  · have ha0 : a * sz = 0 := by rw [show a = 0 by omega, Int.zero_mul]
    have hw1 : IntKind.i64.wrap (a * sz) = a * sz := IntWalk.i64_in _ (by omega)
    have hw2 : IntKind.i64.wrap (a * sz + b) = a * sz + b := IntWalk.i64_in _ (by omega)
    by_cases h7 : (m : Int) ≤ a * sz + b
    · rw [relB_false (fun h => by omega)]; exact before_out7 sz a b A m c w h0 h1 h2 h3 hm h5 hw1 hw2 h7
    · rw [relB_true (by omega)]; exact before_in7 sz a b A m c B f w h0 h1 h2 h3 hm h5 hw1 hw2 h7 hB hrd
end Go.Proofs.Ytjammaglboehcaa
