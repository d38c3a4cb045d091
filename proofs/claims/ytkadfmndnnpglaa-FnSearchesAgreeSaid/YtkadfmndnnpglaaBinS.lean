/-
  The contracts of slices.BinarySearch at []int, of countInt, and the law FnSearchCounts.
-/
import Derived.Test.YtkadfmndnnpglaaSrchInts
namespace Go.Proofs.Ytkadfmndnnpglaa
open Go.RowKit Go.Proofs
set_option linter.unusedVariables false

set_option maxHeartbeats 400000 in
theorem cmpLess (x y : Int) (w : World) : Calls Try.prog 53 #[.int .i64 x, .int .i64 y] w fun e w' => e = .returned (.bool (decide (x < y))) ∧ w = w' := by
  have hx : (x != x) = false := by simp
  go_enter Try.func53, Try.ntmps53
  go_wp2
  go_ret
  exact ⟨rfl, rfl⟩

set_option maxHeartbeats 400000 in
theorem slIsNaN (x : Int) (w : World) : Calls Try.prog 54 #[.int .i64 x] w fun e w' => e = .returned (.bool false) ∧ w = w' := by
  have hx : (x != x) = false := by simp
  go_enter Try.func54, Try.ntmps54
  go_wp2
  go_ret
  exact ⟨rfl, rfl⟩

/-- The place of a search among f, and whether the number stands there. -/
def bsr (f : Nat → Int) (v : Int) (n : Nat) : Nat := (srch (fun i => decide (v ≤ f i)) n 0 n []).1
def bsf (f : Nat → Int) (v : Int) (n : Nat) : Bool := decide (bsr f v n < n) && (f (bsr f v n) == v)

set_option maxHeartbeats 1000000 in
theorem binarySearch (n c : Nat) (A : Option Addr) (f : Nat → Int) (v : Int) (w : World) (B : Nat) (hn : n ≤ 9223372036854775807) (hrd : Rd w B (Value.int .i64) A n f) :
    Calls Try.prog 47 #[.slice A n c, .int .i64 v] w fun e w' => e = .returned (.tuple #[.int .i64 (bsr f v n), .bool (bsf f v n)]) ∧ w = w' := by
  have HR := Lib.hid hrd; clear hrd
  unfold bsf bsr
  generalize hs : srch (fun i => decide (v ≤ f i)) n 0 n [] = sol
  have HS := Lib.hid hs; clear hs
  go_enter Try.func47, Try.ntmps47
  go_wp2_with fail
  go_loopg [7, 8] n (fun kx s5 s6 wr => ∃ (lo hi : Nat) (l : List Nat), s5 = .int .i64 lo ∧ s6 = .int .i64 hi ∧ lo ≤ hi ∧ hi ≤ n ∧ hi - lo ≤ kx ∧ w = wr ∧ Hid (srch (fun i => decide (v ≤ f i)) kx lo hi l = sol))
  case atStart => exact ⟨0, n, [], rfl, rfl, Nat.zero_le _, Nat.le_refl _, by omega, rfl, HS.out⟩
  case round =>
    obtain ⟨lo, hi, l, rfl, rfl, hlh, hin, hg, rfl, HI⟩ := hrel
    by_cases hlt : lo < hi
    · obtain ⟨b, off, rfl, _, hc⟩ := HR.out.at (show (lo + hi) / 2 < n by omega)
      have hh := half lo hi hlh (by omega)
      generalize hfx : f ((lo + hi) / 2) = y at hc
      have HX := Lib.hid hfx; clear hfx
      have hmid : lo ≤ (lo + hi) / 2 ∧ (lo + hi) / 2 < hi := by omega
      have hmz : (((lo + hi) / 2 : Nat) : Int) < (n : Int) := by omega
      by_cases hp : v ≤ y
      · have HC := Lib.hid (cmpLess y v w)
        rw [decide_eq_false (show ¬ y < v by omega)] at HC
        go_wp2_with fail
        refine HC.out.mono ?_
        rintro e w' ⟨rfl, rfl⟩
        go_wp2_with fail
        go_roundg ((lo + hi) / 2 - lo)
        case measure => omega
        case rel => exact ⟨lo, (lo + hi) / 2, _, rfl, rfl, by omega, by omega, by omega, rfl, by rw [← HI.out]; exact (srch_yes _ gk lo hi l hlt hg (decide_eq_true (by rw [HX.out]; exact hp))).symm⟩
      · have HC := Lib.hid (cmpLess y v w)
        rw [decide_eq_true (show y < v by omega)] at HC
        go_wp2_with fail
        refine HC.out.mono ?_
        rintro e w' ⟨rfl, rfl⟩
        go_wp2_with fail
        go_roundg (hi - ((lo + hi) / 2 + 1))
        case measure => omega
        case rel => exact ⟨(lo + hi) / 2 + 1, hi, _, by go_num, rfl, by omega, by omega, by omega, rfl, by rw [← HI.out]; exact (srch_no _ gk lo hi l hlt hg (decide_eq_false (by rw [HX.out]; omega))).symm⟩
    · have hS := HI.out
      rw [srch_stop _ _ _ _ _ hlt] at hS
      subst hS
      by_cases hln : lo < n
      · obtain ⟨b, off, rfl, _, hc⟩ := HR.out.at hln
        generalize hfx : f lo = y at hc
        have HX := Lib.hid hfx; clear hfx
        by_cases hy : y = v
        · subst hy
          have hyy : (y == y) = true := by simp
          go_wp2_with fail
          go_ret2
          exact ⟨by simp [HX.out], rfl⟩
        · have hyy : (y == v) = false := by rw [beq_eq_false_iff_ne]; exact hy
          have HC := Lib.hid (slIsNaN y w)
          go_wp2_with fail
          refine HC.out.mono ?_
          rintro e w' ⟨rfl, rfl⟩
          go_wp2_with fail
          go_ret2
          exact ⟨by simp [HX.out, hyy], rfl⟩
      · have hd : decide ((lo : Int) < (n : Int)) = false := decide_eq_false (by omega)
        go_wp2_with fail
        go_ret2
        exact ⟨by simp, rfl⟩

set_option maxHeartbeats 400000 in
theorem binarySearchInts (n c : Nat) (A : Option Addr) (f : Nat → Int) (v : Int) (w : World) (B : Nat) (hn : n ≤ 9223372036854775807) (hrd : Rd w B (Value.int .i64) A n f) :
    Calls Try.prog 31 #[.slice A n c, .int .i64 v] w fun e w' => e = .returned (.tuple #[.int .i64 (bsr f v n), .bool (bsf f v n)]) ∧ w = w' := by
  have hS := binarySearch n c A f v w B hn hrd
  generalize bsr f v n = r at hS ⊢
  generalize bsf f v n = z at hS ⊢
  have HS := Lib.hid hS; clear hS hrd
  go_enter Try.func31, Try.ntmps31
  go_wp2_with fail
  refine HS.out.mono ?_
  rintro e w' ⟨rfl, rfl⟩
  go_wp2_with fail
  go_ret2
  exact ⟨rfl, rfl⟩

set_option maxHeartbeats 400000 in
theorem countInt (n c : Nat) (A : Option Addr) (f : Nat → Int) (v : Int) (w : World) (B : Nat) (hn : n ≤ 9223372036854775807) (hrd : Rd w B (Value.int .i64) A n f) :
    Calls Try.prog 32 #[.slice A n c, .int .i64 v] w fun e w' => e = .returned (.int .i64 (cnt (fun i => f i == v) n)) ∧ w = w' := by
  generalize hr : cnt (fun i => f i == v) n = r
  have HC := Lib.hid hr; clear hr
  have HR := Lib.hid hrd; clear hrd
  go_enter Try.func32, Try.ntmps32
  go_wp2
  go_loop [5, 10] (fun s5 vi => ∃ k m : Nat, k ≤ n ∧ m ≤ k ∧ vi = .int .i64 k ∧ s5 = .int .i64 m ∧ Hid (m = cnt (fun i => f i == v) k)) (fun _ vi => n - (intOf vi).toNat)
  case atStart => exact ⟨0, 0, Nat.zero_le _, Nat.le_refl _, rfl, rfl, show 0 = cnt _ 0 from rfl⟩
  case round =>
    obtain ⟨k, m, hk, hmk, rfl, rfl, HI⟩ := hrel
    by_cases hlt : k < n
    · obtain ⟨b, off, rfl, _, hc⟩ := HR.out.at hlt
      have HN := Lib.hid (show cnt (fun i => f i == v) (k + 1) = m + if f k == v then 1 else 0 by rw [HI.out]; rfl)
      generalize f k = y at hc HN
      cases hy : (y == v)
      · rw [hy] at HN
        go_wp2
        go_round
        case rel => exact ⟨k + 1, m, hlt, by omega, by go_num, rfl, by rw [HN.out]; rfl⟩
        case measure => simp [intOf]; omega
      · rw [hy] at HN
        go_wp2
        go_round
        case rel => exact ⟨k + 1, m + 1, hlt, by omega, by go_num, by go_num, by rw [HN.out]; rfl⟩
        case measure => simp [intOf]; omega
    · obtain rfl : k = n := by omega
      go_wp2
      go_ret
      exact ⟨by rw [← HC.out, ← HI.out]; rfl, rfl⟩

theorem cnt_next (f : Nat → Int) (v : Int) (n : Nat) : cnt (fun i => decide (f i < v + 1)) n = cnt (fun i => decide (f i < v)) n + cnt (fun i => f i == v) n := by
  rw [cnt_add_split (fun i => decide (f i < v)) (fun i => decide (f i < v + 1)) n (fun i _ h => by simp only [decide_eq_true_eq] at h ⊢; omega)]
  congr 1
  refine cnt_congr fun i _ => ?_
  rw [Bool.eq_iff_iff]
  simp only [Bool.and_eq_true, decide_eq_true_eq, Bool.not_eq_true', decide_eq_false_iff_not, beq_iff_eq]
  omega

theorem bsf_asc {f : Nat → Int} {n : Nat} (v : Int) (h : AscF f n) : bsf f v n = decide (0 < cnt (fun i => f i == v) n) := by
  unfold bsf bsr
  rw [srch_asc v h]
  have hc := cnt_first (q := fun i => decide (f i < v)) (n := n) (fun i j hij hj hq => by
    have := h.le hij hj
    simp only [decide_eq_true_eq] at hq ⊢
    omega)
  have hle := cnt_le (fun i => decide (f i < v)) n
  generalize cnt (fun i => decide (f i < v)) n = r at hc hle
  rw [Bool.eq_iff_iff]
  simp only [Bool.and_eq_true, decide_eq_true_eq, beq_iff_eq, cnt_pos]
  constructor
  · rintro ⟨a, b⟩; exact ⟨r, a, b⟩
  · rintro ⟨k, hk, hv⟩
    have h1 : ¬ k < r := fun hh => by have := (hc k hk).2 hh; simp only [decide_eq_true_eq] at this; omega
    have h2 : r < n := by omega
    have h3 := h.le (show r ≤ k by omega) hk
    have h4 : ¬ f r < v := fun hh => by have := (hc r h2).1 (decide_eq_true hh); omega
    exact ⟨h2, by omega⟩

set_option maxHeartbeats 2000000 in
theorem fnSearchCountsw (w : World) (A : Option Addr) (n c : Nat) (f : Nat → Int) (hf64 : ∀ i, I64 (f i)) (hl : n ≤ c) (hre : c * 8 ≤ 140737488351232) (hrd : Rd w w.heap.size (Value.int .i64) A n f) (v : Int) (hv : I64 v) :
    Calls Try.prog 13 #[.slice A n c, .int .i64 v] w fun e w' => e = .returned (.bool true) ∧ Below w.heap.size w w' := by
  have hn : n ≤ 140737488351232 := by omega
  unfold I64 at hv
  have H0 := Lib.hid (ascending n c A f w w.heap.size (by omega) hrd)
  have H1 := Lib.hid (fun v q => binarySearchInts n c A f v (w.drewN q) w.heap.size (by omega) (hrd.drewN q))
  have H2 := Lib.hid (fun v q => countInt n c A f v (w.drewN q) w.heap.size (by omega) (hrd.drewN q))
  have H3 := Lib.hid (fun v w' (hb : Below w.heap.size w w') => searchInts n c A f v w' (by omega) ((hrd.keep hb (Nat.le_refl _)).more hb.size))
  clear hrd hre hl hf64
  by_cases hmax : v = 9223372036854775807
  · subst hmax
    go_enter Try.func13, Try.ntmps13
    go_wp2_with fail
    refine H0.out.mono ?_
    rintro e w' ⟨b, rfl, hb, q, rfl⟩
    clear hb
    cases b
    all_goals
      go_wp2_with fail
      go_ret
      exact ⟨rfl, below_drewN (Below.refl _ _) _⟩
  · have hm2 : (v == 9223372036854775807) = false := by rw [beq_eq_false_iff_ne]; exact hmax
    have hvlt : v < 9223372036854775807 := by omega
    clear hmax
    go_enter Try.func13, Try.ntmps13
    go_wp2_with fail
    refine H0.out.mono ?_
    rintro e w' ⟨b, rfl, hb, q, rfl⟩
    have HB := Lib.hid hb; clear hb
    cases b with
    | false =>
      go_wp2_with fail
      go_ret
      exact ⟨rfl, below_drewN (Below.refl _ _) _⟩
    | true =>
      have hA : AscF f n := by simpa using HB.out
      have e1 := bsf_asc v hA
      have e2 : bsr f v n = cnt (fun i => decide (f i < v)) n := srch_asc v hA
      have e3 : bsr f (v + 1) n = cnt (fun i => decide (f i < v)) n + cnt (fun i => f i == v) n := (srch_asc (v + 1) hA).trans (cnt_next f v n)
      have q1 := H1.out v q
      have q2 := H1.out (v + 1) q
      have q3 := H2.out v q
      have hb0 : Below w.heap.size w (w.drewN q) := below_drewN (Below.refl _ _) q
      have q4 := H3.out (v + 1) (w.drewN q) hb0
      have q5 := H3.out v
      change ∀ w', Below w.heap.size w w' → Calls Try.prog 22 #[.slice A n c, .int .i64 v] w' fun e w'' => e = .returned (.int .i64 (bsr f v n)) ∧ Below w'.heap.size w' w'' at q5
      change Calls Try.prog 22 #[.slice A n c, .int .i64 (v + 1)] (w.drewN q) fun e w'' => e = .returned (.int .i64 (bsr f (v + 1) n)) ∧ Below (w.drewN q).heap.size (w.drewN q) w'' at q4
      have hle1 := cnt_le (fun i => decide (f i < v)) n
      have hle2 := cnt_le (fun i => f i == v) n
      rw [e1, e2] at q1
      rw [e3] at q2 q4
      rw [e2] at q5
      generalize bsf f (v + 1) n = z2 at q2
      generalize cnt (fun i => decide (f i < v)) n = r at q1 q2 q4 q5 hle1
      generalize cnt (fun i => f i == v) n = d at q1 q2 q3 q4 hle2
      clear e1 e2 e3 hA HB H1 H2 H3 H0
      obtain ⟨j, hj⟩ : ∃ j, j = r + d := ⟨_, rfl⟩
      rw [← hj] at q2 q4
      have hd1 : ((j : Int) - (r : Int) == (d : Int)) = true := by rw [beq_iff_eq]; omega
      have hjn : j ≤ 2 * n := by omega
      have hd2 : ((j : Int) - (r : Int) == (j : Int) - (r : Int)) = true := by simp
      have Q2 := Lib.hid q2; have Q3 := Lib.hid q3; have Q4 := Lib.hid q4; have Q5 := Lib.hid q5; have HB0 := Lib.hid hb0
      have key : (decide (0 < d) = true ∧ r < j ∧ decide (r < j) = true) ∨ (decide (0 < d) = false ∧ j ≤ r ∧ decide (r < j) = false) := by
        rcases Nat.eq_zero_or_pos d with h | h
        · exact .inr ⟨decide_eq_false (by omega), by omega, decide_eq_false (by omega)⟩
        · exact .inl ⟨decide_eq_true h, by omega, decide_eq_true (by omega)⟩
      clear q2 q3 q4 q5 hb0 hj
      rcases key with ⟨k1, k2, k3⟩ | ⟨k1, k2, k3⟩
      all_goals
        rw [k1] at q1
        have Q1 := Lib.hid q1; clear q1 k1
        go_wp2_with fail
        refine Q1.out.mono ?_
        rintro e w1 ⟨rfl, rfl⟩
        go_wp2_with fail
        refine Q2.out.mono ?_
        rintro e w1 ⟨rfl, rfl⟩
        go_wp2_with fail
        refine Q3.out.mono ?_
        rintro e w1 ⟨rfl, rfl⟩
        go_wp2_with fail
        refine Q4.out.mono ?_
        rintro e w1 ⟨rfl, hb1⟩
        have HB1 := Lib.hid (HB0.out.trans hb1); clear hb1
        go_wp2_with fail
        refine (Q5.out _ HB1.out).mono ?_
        rintro e w2 ⟨rfl, hb2⟩
        have HB2 := Lib.hid (HB1.out.trans (hb2.mono HB1.out.size)); clear hb2
        go_wp2_with fail
        go_ret
        exact ⟨rfl, HB2.out⟩
end Go.Proofs.Ytkadfmndnnpglaa
