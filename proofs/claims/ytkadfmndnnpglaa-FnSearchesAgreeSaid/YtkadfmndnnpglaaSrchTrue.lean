/-
  The walks of the laws FnSearchTrue and FnSearchTrueOfAny: impl.SearchTrue, spec.SearchTrue, and the laws above them.
-/
import Derived.Test.YtkadfmndnnpglaaSrch
namespace Go.Proofs.Ytkadfmndnnpglaa
open Go.RowKit Go.Proofs
set_option linter.unusedVariables false

set_option maxHeartbeats 400000 in
theorem searchTrue1 (i n c : Nat) (A : Option Addr) (f : Nat → Bool) (b B : Nat) (w : World) (hi : i < n) (hrd : Rd w B Value.bool A n f) (hn : n ≤ 9223372036854775807) (hc : w.cell? ⟨b, 0, none⟩ = some (.slice A n c)) :
    Calls Try.prog 36 (#[.int .i64 i] ++ #[.pointer (some ⟨b, 0, none⟩)]) w fun e w' => e = .returned (.bool (f i)) ∧ w = w' := by
  obtain ⟨bb, off, rfl, _, hv⟩ := hrd.at hi
  clear hrd
  go_enter Try.func36, Try.ntmps36
  go_wp2
  go_ret
  exact ⟨rfl, rfl⟩

theorem enters_true : ∀ args w, (callFunc 36 args).run Try.prog w = .ok (.enter 36 args) w := enters_of Try.func36 (by kernel_rfl) rfl

set_option maxHeartbeats 400000 in
theorem searchTrue (n c : Nat) (A : Option Addr) (f : Nat → Bool) (w : World) (hn : n ≤ 9223372036854775807) (hrd : Rd w w.heap.size Value.bool A n f) :
    Calls Try.prog 17 #[.slice A n c] w fun e w' => e = .returned (.int .i64 (srch f n 0 n []).1) ∧ Below w.heap.size w w' := by
  have hS := search_any 36 #[.pointer (some ⟨w.heap.size, 0, none⟩)] n f (fun _ w' => w' = w.alloc (.cells #[.slice A n c] 24)) (w.alloc (.cells #[.slice A n c] 24)) (by omega) enters_true
    (fun l w1 i hi hw => by
      subst hw
      exact (searchTrue1 i n c A f w.heap.size _ _ hi (hrd.alloc (Nat.le_refl _) _) hn (cell_new _ _ _)).mono fun e w' ⟨he, hw⟩ => ⟨he, hw.symm⟩) rfl
  generalize (srch f n 0 n []).1 = r at hS ⊢
  have HS := Lib.hid hS; clear hS hrd
  go_enter Try.func17, Try.ntmps17
  go_wp2_with fail
  refine HS.out.mono ?_
  rintro e w' ⟨rfl, rfl⟩
  go_wp2_with fail
  go_ret
  exact ⟨rfl, (Below.refl _ _).alloc (Nat.le_refl _) _⟩

def FirstTrue (f : Nat → Bool) (n : Nat) (w : World) (e : Ending) (w' : World) : Prop := ∃ r : Nat, e = .returned (.int .i64 r) ∧ r ≤ n ∧ (∀ i, i < r → f i = false) ∧ (r = n ∨ f r = true) ∧ w = w'

set_option maxHeartbeats 400000 in
theorem specSearchTrue (n c : Nat) (A : Option Addr) (f : Nat → Bool) (w : World) (hn : n ≤ 9223372036854775807) (hrd : Rd w w.heap.size Value.bool A n f) :
    Calls Try.prog 18 #[.slice A n c] w (FirstTrue f n w) := by
  have HR := Lib.hid hrd; clear hrd
  go_enter Try.func18, Try.ntmps18
  go_wp2
  go_loop [7] (fun vi => ∃ k : Nat, k ≤ n ∧ vi = .int .i64 k ∧ Hid (∀ i, i < k → f i = false)) (fun vi => n - (intOf vi).toNat)
  case atStart => exact ⟨0, Nat.zero_le _, rfl, fun i hi => absurd hi (Nat.not_lt_zero _)⟩
  case round =>
    obtain ⟨k, hk, rfl, HI⟩ := hrel
    by_cases hlt : k < n
    · obtain ⟨b, off, rfl, _, hc⟩ := HR.out.at hlt
      cases hf : f k with
      | true =>
        rw [hf] at hc
        have HF := Lib.hid hf; clear hf
        go_wp2
        go_ret
        exact ⟨k, rfl, hk, HI.out, .inr HF.out, rfl⟩
      | false =>
        rw [hf] at hc
        have HF := Lib.hid hf; clear hf
        go_wp2
        go_round
        case rel => exact ⟨k + 1, hlt, by go_num, fun i hi => by
          rcases Nat.lt_succ_iff_lt_or_eq.1 hi with h | h
          · exact HI.out i h
          · rw [h]; exact HF.out⟩
        case measure => simp [intOf]; omega
    · go_wp2
      go_ret
      obtain rfl : k = n := by omega
      exact ⟨k, rfl, hk, HI.out, .inl rfl, rfl⟩

theorem true_law {n r : Nat} {f : Nat → Bool} (hr : r ≤ n) (h1 : ∀ i, i < r → f i = false) (h2 : r = n ∨ f r = true) (hm : ∀ i, 1 ≤ i → i < n → f (i - 1) = true → f i = true) : (srch f n 0 n []).1 = r := by
  refine srch_first f n r hr h1 fun i hi hn => ?_
  rcases h2 with h2 | h2
  · omega
  · induction i with
    | zero => obtain rfl : r = 0 := by omega
              exact h2
    | succ i ih =>
      rcases Nat.lt_or_ge i r with h | h
      · obtain rfl : r = i + 1 := by omega
        exact h2
      · exact hm (i + 1) (by omega) hn (ih h (by omega))

set_option maxHeartbeats 1000000 in
theorem fnSearchTruew (w : World) (A : Option Addr) (n c : Nat) (f : Nat → Bool) (hl : n ≤ c) (hre : c * 1 ≤ 140737488351232) (hrd : Rd w w.heap.size Value.bool A n f) :
    Calls Try.prog 4 #[.slice A n c] w fun e w' => e = .returned (.bool true) ∧ Below w.heap.size w w' := by
  have hn : n ≤ 140737488351232 := by omega
  have H1 := Lib.hid (searchTrue n c A f w (by omega) hrd)
  have H2 := Lib.hid (fun w' (hb : Below w.heap.size w w') => specSearchTrue n c A f w' (by omega) ((hrd.below hb (Nat.le_refl _)).more hb.size))
  have HR := Lib.hid hrd; clear hrd hre hl
  go_enter Try.func4, Try.ntmps4
  go_wp2_with fail
  go_loop [3] (fun vi => ∃ k : Nat, 1 ≤ k ∧ (k ≤ n ∨ k = 1) ∧ vi = .int .i64 k ∧ Hid (∀ i, 1 ≤ i → i < k → f (i - 1) = true → f i = true)) (fun vi => n - (intOf vi).toNat)
  case atStart => exact ⟨1, by omega, .inr rfl, rfl, fun i h1 h2 => absurd h2 (by omega)⟩
  case round =>
    obtain ⟨k, hk, hk2, rfl, HI⟩ := hrel
    by_cases hlt : k < n
    · obtain ⟨b, off, rfl, _, hc⟩ := HR.out.at (show k - 1 < n by omega)
      obtain ⟨b', off', h', _, hc'⟩ := HR.out.at hlt
      simp only [Option.some.injEq, Addr.mk.injEq, and_true] at h'
      obtain ⟨rfl, rfl⟩ := h'
      clear H1 H2
      have hz : (0 : Int) ≤ (k : Int) - 1 := by omega
      have hkn : ((k : Int) - 1).toNat = k - 1 := by omega
      cases h1 : f (k - 1) with
      | true =>
        cases h2 : f k with
        | true =>
          rw [h1] at hc; rw [h2] at hc'
          have G2 := Lib.hid h2; clear h1 h2
          go_wp2_with fail
          go_round
          case rel => exact ⟨k + 1, by omega, .inl hlt, by go_num, fun i a b d => by
            rcases Nat.lt_succ_iff_lt_or_eq.1 b with h | h
            · exact HI.out i a h d
            · rw [h]; exact G2.out⟩
          case measure => simp [intOf]; omega
        | false =>
          rw [h1] at hc; rw [h2] at hc'
          clear h1 h2
          go_wp2_with fail
          go_ret
          exact ⟨rfl, Below.refl _ _⟩
      | false =>
        rw [h1] at hc
        have G1 := Lib.hid h1; clear h1 hc'
        go_wp2_with fail
        go_round
        case rel => exact ⟨k + 1, by omega, .inl hlt, by go_num, fun i a b d => by
          rcases Nat.lt_succ_iff_lt_or_eq.1 b with h | h
          · exact HI.out i a h d
          · rw [h, G1.out] at d; cases d⟩
        case measure => simp [intOf]; omega
    · go_wp2_with fail
      refine H1.out.mono ?_
      rintro e w1 ⟨rfl, hb⟩
      go_wp2_with fail
      refine (H2.out _ hb).mono ?_
      rintro e w2 ⟨r, rfl, h1, h2, h3, rfl⟩
      have hq : (srch f n 0 n []).1 = r := true_law h1 h2 h3 fun i a b => HI.out i a (by omega)
      rw [hq]
      have he : ((r : Int) == (r : Int)) = true := by simp
      clear hq h1 h2 h3
      go_wp2_with fail
      go_ret
      exact ⟨rfl, hb⟩

set_option maxHeartbeats 1000000 in
theorem fnSearchTrueOfAnyw (w : World) (A : Option Addr) (n c : Nat) (f : Nat → Bool) (hl : n ≤ c) (hre : c * 1 ≤ 140737488351232) (hrd : Rd w w.heap.size Value.bool A n f) :
    Calls Try.prog 5 #[.slice A n c] w fun e w' => e = .returned (.bool true) ∧ Below w.heap.size w w' := by
  have hn : n ≤ 140737488351232 := by omega
  have h1 := searchTrue n c A f w (by omega) hrd
  obtain ⟨e1, e2, e3⟩ := srch_ends f n n 0 n [] (by omega) (by omega) (by omega) (.inl rfl) (.inl rfl)
  generalize (srch f n 0 n []).1 = r at h1 e1 e2 e3
  have H1 := Lib.hid h1
  have HR := Lib.hid hrd; clear h1 hrd hre hl
  go_enter Try.func5, Try.ntmps5
  go_wp2_with fail
  refine H1.out.mono ?_
  rintro e w1 ⟨rfl, hb⟩
  have HR1 := HR.out.below hb (Nat.le_refl _)
  have hr0 : (0 : Int) ≤ (r : Int) := by omega
  have hd1 : decide ((r : Int) ≥ 0) = true := decide_eq_true hr0
  by_cases h0 : r = 0
  · subst h0
    by_cases hn0 : n = 0
    · subst hn0
      clear HR1 e2 e3
      go_wp2_with fail
      go_ret
      exact ⟨rfl, hb⟩
    · obtain ⟨b, off, rfl, _, hc⟩ := HR1.at (show 0 < n by omega)
      have hv : f 0 = true := by rcases e2 with h | h; exact absurd h.symm hn0; exact h
      rw [hv] at hc
      have hne : ((0 : Int) == (n : Int)) = false := by rw [beq_eq_false_iff_ne]; omega
      have hpos : 0 < n := by omega
      simp only [Nat.add_zero] at hc
      clear HR1 e2 e3 hv hn0
      go_wp2_with fail
      go_ret
      exact ⟨rfl, hb⟩
  · obtain ⟨b, off, rfl, _, hc⟩ := HR1.at (show r - 1 < n by omega)
    have hv : f (r - 1) = false := by rcases e3 with h | h; exact absurd h h0; exact h
    rw [hv] at hc
    have hz : (0 : Int) ≤ (r : Int) - 1 := by omega
    have hkn : ((r : Int) - 1).toNat = r - 1 := by omega
    have hr1 : ((r : Int) == 0) = false := by rw [beq_eq_false_iff_ne]; omega
    by_cases hrn : r = n
    · subst hrn
      have hrr : ((r : Int) == (r : Int)) = true := by simp
      clear HR1 e2 e3 hv h0 e1
      go_wp2_with fail
      go_ret
      exact ⟨rfl, hb⟩
    · obtain ⟨b', off', h', _, hc'⟩ := HR1.at (show r < n by omega)
      simp only [Option.some.injEq, Addr.mk.injEq, and_true] at h'
      obtain ⟨rfl, rfl⟩ := h'
      have hv' : f r = true := by rcases e2 with h | h; exact absurd h hrn; exact h
      rw [hv'] at hc'
      have hne : ((r : Int) == (n : Int)) = false := by rw [beq_eq_false_iff_ne]; omega
      have hlt : r < n := by omega
      clear HR1 e2 e3 hv hv' h0 hrn e1
      go_wp2_with fail
      go_ret
      exact ⟨rfl, hb⟩
end Go.Proofs.Ytkadfmndnnpglaa
