/-
  The walks of the law FnFindSigns: impl.FindSigns, spec.FindSigns, and the law above them.
-/
import Derived.Test.YtkadfmndnnpglaaFnd
namespace Go.Proofs.Ytkadfmndnnpglaa
open Go.RowKit Go.Proofs
set_option linter.unusedVariables false

set_option maxHeartbeats 400000 in
theorem findSigns1 (i n c : Nat) (A : Option Addr) (f : Nat → Int) (b B : Nat) (w : World) (hi : i < n) (hrd : Rd w B (Value.int .i64) A n f) (hn : n ≤ 9223372036854775807) (hc : w.cell? ⟨b, 0, none⟩ = some (.slice A n c)) :
    Calls Try.prog 38 (#[.int .i64 i] ++ #[.pointer (some ⟨b, 0, none⟩)]) w fun e w' => e = .returned (.int .i64 (f i)) ∧ w = w' := by
  obtain ⟨bb, off, rfl, _, hv⟩ := hrd.at hi
  clear hrd
  go_enter Try.func38, Try.ntmps38
  go_wp2
  go_ret
  exact ⟨rfl, rfl⟩

theorem enters_signs : ∀ args w, (callFunc 38 args).run Try.prog w = .ok (.enter 38 args) w := enters_of Try.func38 (by kernel_rfl) rfl

set_option maxHeartbeats 400000 in
theorem findSigns (n c : Nat) (A : Option Addr) (f : Nat → Int) (w : World) (hn : n ≤ 9223372036854775807) (hrd : Rd w w.heap.size (Value.int .i64) A n f) :
    Calls Try.prog 19 #[.slice A n c] w fun e w' => e = .returned (.tuple #[.int .i64 (fnd f n).1, .bool (fnd f n).2.1]) ∧ Below w.heap.size w w' := by
  have hS := find_any 38 #[.pointer (some ⟨w.heap.size, 0, none⟩)] n f (fun _ w' => w' = w.alloc (.cells #[.slice A n c] 27)) (w.alloc (.cells #[.slice A n c] 27)) (by omega) enters_signs
    (fun l w1 i hi hw => by
      subst hw
      exact (findSigns1 i n c A f w.heap.size _ _ hi (hrd.alloc (Nat.le_refl _) _) hn (cell_new _ _ _)).mono fun e w' ⟨he, hw⟩ => ⟨he, hw.symm⟩) rfl
  generalize fnd f n = r at hS ⊢
  have HS := Lib.hid hS; clear hS hrd
  go_enter Try.func19, Try.ntmps19
  go_wp2_with fail
  refine HS.out.mono ?_
  rintro e w' ⟨rfl, rfl⟩
  go_wp2_with fail
  go_ret2
  exact ⟨rfl, (Below.refl _ _).alloc (Nat.le_refl _) _⟩

/-- The first place that is not positive, and whether a zero stands there. -/
def FirstLow (f : Nat → Int) (n : Nat) (w : World) (e : Ending) (w' : World) : Prop :=
  ∃ (r : Nat) (z : Bool), e = .returned (.tuple #[.int .i64 r, .bool z]) ∧ r ≤ n ∧ (∀ i, i < r → 0 < f i) ∧ (r < n → f r ≤ 0) ∧ z = (decide (r < n) && (f r == 0)) ∧ w = w'

set_option maxHeartbeats 400000 in
theorem specFindSigns (n c : Nat) (A : Option Addr) (f : Nat → Int) (w : World) (hn : n ≤ 9223372036854775807) (hrd : Rd w w.heap.size (Value.int .i64) A n f) :
    Calls Try.prog 20 #[.slice A n c] w (FirstLow f n w) := by
  have HR := Lib.hid hrd; clear hrd
  go_enter Try.func20, Try.ntmps20
  go_wp2
  go_loop [8] (fun vi => ∃ k : Nat, k ≤ n ∧ vi = .int .i64 k ∧ Hid (∀ i, i < k → 0 < f i)) (fun vi => n - (intOf vi).toNat)
  case atStart => exact ⟨0, Nat.zero_le _, rfl, fun i hi => absurd hi (Nat.not_lt_zero _)⟩
  case round =>
    obtain ⟨k, hk, rfl, HI⟩ := hrel
    by_cases hlt : k < n
    · obtain ⟨b, off, rfl, _, hc⟩ := HR.out.at hlt
      generalize hf : f k = fk at hc
      have HF := Lib.hid hf; clear hf
      by_cases hle : fk ≤ 0
      · go_wp2
        go_ret2
        exact ⟨k, _, rfl, hk, HI.out, fun _ => by rw [HF.out]; exact hle, by simp [hlt, HF.out], rfl⟩
      · go_wp2
        go_round
        case rel => exact ⟨k + 1, hlt, by go_num, fun i hi => by
          rcases Nat.lt_succ_iff_lt_or_eq.1 hi with h | h
          · exact HI.out i h
          · rw [h, HF.out]; omega⟩
        case measure => simp [intOf]; omega
    · go_wp2
      go_ret2
      obtain rfl : k = n := by omega
      exact ⟨k, _, rfl, hk, HI.out, fun h => absurd h hlt, by simp, rfl⟩

/-- Positive ones first, then zeros, then negative ones. -/
def Falls (f : Nat → Int) (n : Nat) : Prop := ∀ i, 1 ≤ i → i < n → ¬ (f (i - 1) ≤ 0 ∧ 0 < f i) ∧ ¬ (f (i - 1) < 0 ∧ 0 ≤ f i)

theorem falls_low {f : Nat → Int} {n r : Nat} (hm : ∀ i, 1 ≤ i → i < n → ¬ (f (i - 1) ≤ 0 ∧ 0 < f i)) (h2 : r < n → f r ≤ 0) : ∀ i, r ≤ i → i < n → f i ≤ 0 := by
  intro i hi hn
  induction i with
  | zero => obtain rfl : r = 0 := by omega
            exact h2 hn
  | succ i ih =>
    rcases Nat.lt_or_ge i r with h | h
    · obtain rfl : r = i + 1 := by omega
      exact h2 hn
    · have h1 := ih h (by omega)
      have h3 := hm (i + 1) (by omega) hn
      simp only [Nat.add_sub_cancel] at h3
      omega

theorem fnd_first {f : Nat → Int} {n r : Nat} (hr : r ≤ n) (h1 : ∀ i, i < r → 0 < f i) (h2 : ∀ i, r ≤ i → i < n → f i ≤ 0) : (fnd f n).1 = r ∧ (fnd f n).2.1 = (decide (r < n) && (f r == 0)) := by
  have e : (srch (fun i => decide (f i ≤ 0)) n 0 n []).1 = r := srch_first _ n r hr (fun i hi => decide_eq_false (by have := h1 i hi; omega)) fun i hi hn => decide_eq_true (h2 i hi hn)
  unfold fnd
  rw [e]
  exact ⟨rfl, rfl⟩

set_option maxHeartbeats 1000000 in
theorem fnFindSignsw (w : World) (A : Option Addr) (n c : Nat) (f : Nat → Int) (hf64 : ∀ i, I64 (f i)) (hl : n ≤ c) (hre : c * 8 ≤ 140737488351232) (hrd : Rd w w.heap.size (Value.int .i64) A n f) :
    Calls Try.prog 6 #[.slice A n c] w fun e w' => e = .returned (.bool true) ∧ Below w.heap.size w w' := by
  have hn : n ≤ 140737488351232 := by omega
  have H1 := Lib.hid (findSigns n c A f w (by omega) hrd)
  have H2 := Lib.hid (fun w' (hb : Below w.heap.size w w') => specFindSigns n c A f w' (by omega) ((hrd.below hb (Nat.le_refl _)).more hb.size))
  have HR := Lib.hid hrd; clear hrd hre hl hf64
  go_enter Try.func6, Try.ntmps6
  go_wp2_with fail
  go_loop [3] (fun vi => ∃ k : Nat, 1 ≤ k ∧ (k ≤ n ∨ k = 1) ∧ vi = .int .i64 k ∧ Hid (∀ i, 1 ≤ i → i < k → ¬ (f (i - 1) ≤ 0 ∧ 0 < f i))) (fun vi => n - (intOf vi).toNat)
  case atStart => exact ⟨1, by omega, .inr rfl, rfl, fun i h1 h2 => absurd h2 (by omega)⟩
  case round =>
    obtain ⟨k, hk, hk2, rfl, HI⟩ := hrel
    by_cases hlt : k < n
    · obtain ⟨b, off, rfl, _, hc⟩ := HR.out.at (show k - 1 < n by omega)
      obtain ⟨b', off', h', _, hc'⟩ := HR.out.at hlt
      simp only [Option.some.injEq, Addr.mk.injEq, and_true] at h'
      obtain ⟨rfl, rfl⟩ := h'
      clear H1 H2
      have hz : (0 : Int) ≤ (k : Int) - 1 := by omega
      have hkn : ((k : Int) - 1).toNat = k - 1 := by omega
      have hstep : ¬ (f (k - 1) ≤ 0 ∧ 0 < f k) → ∀ i, 1 ≤ i → i < k + 1 → ¬ (f (i - 1) ≤ 0 ∧ 0 < f i) := fun h i a b => by
        rcases Nat.lt_succ_iff_lt_or_eq.1 b with h' | h'
        · exact HI.out i a h'
        · rw [h']; exact h
      have HST := Lib.hid hstep; clear hstep
      generalize f (k - 1) = x at hc HST
      generalize f k = y at hc' HST
      clear HI
      by_cases h1 : x ≤ 0
      · have hd1 : decide (x ≤ 0) = true := decide_eq_true h1
        by_cases h2 : 0 < y
        · have hd2 : decide (y > 0) = true := decide_eq_true h2
          clear HST
          go_wp2_with fail
          go_ret
          exact ⟨rfl, Below.refl _ _⟩
        · have hd2 : decide (y > 0) = false := decide_eq_false h2
          by_cases h3 : x < 0
          · have hd3 : decide (x < 0) = true := decide_eq_true h3
            by_cases h4 : 0 ≤ y
            · clear HST
              go_wp2_with fail
              go_ret
              exact ⟨rfl, Below.refl _ _⟩
            · go_wp2_with fail
              go_round
              case rel => exact ⟨k + 1, by omega, .inl hlt, by go_num, HST.out (by omega)⟩
              case measure => simp [intOf]; omega
          · have hd3 : decide (x < 0) = false := decide_eq_false h3
            go_wp2_with fail
            go_round
            case rel => exact ⟨k + 1, by omega, .inl hlt, by go_num, HST.out (by omega)⟩
            case measure => simp [intOf]; omega
      · have hd1 : decide (x ≤ 0) = false := decide_eq_false h1
        have hd3 : decide (x < 0) = false := decide_eq_false (by omega)
        go_wp2_with fail
        go_round
        case rel => exact ⟨k + 1, by omega, .inl hlt, by go_num, HST.out (by omega)⟩
        case measure => simp [intOf]; omega
    · go_wp2_with fail
      refine H1.out.mono ?_
      rintro e w1 ⟨rfl, hb⟩
      go_wp2_with fail
      refine (H2.out _ hb).mono ?_
      rintro e w2 ⟨r, z, rfl, h1, h2, h3, h4, rfl⟩
      obtain ⟨q1, q2⟩ := fnd_first h1 h2 (falls_low (fun i a b => HI.out i a (by omega)) h3)
      rw [q1, q2, ← h4]
      have he : ((r : Int) == (r : Int)) = true := by simp
      clear q1 q2 h1 h2 h3 h4
      have hzz : (z == z) = true := by simp
      go_wp2_with fail
      go_ret
      exact ⟨rfl, hb⟩
end Go.Proofs.Ytkadfmndnnpglaa
