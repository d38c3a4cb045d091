/-
  The walks of impl.ReverseInts, impl.CompactInts, impl.CompactRest, and of the law FnSortsKeepArgument.
-/
import Derived.Test.YtjddpbamnjdjcaaPlR
import Derived.Test.YtjddpbamnjdjcaaPlN
namespace Go.Proofs.Ytjddpbamnjdjcaa
open Go.RowKit Go.Proofs Go.Sort
set_option linter.unusedVariables false

/-- A list of between k and n elements; what was there is as it was. -/
def OutLen (w : World) (k n : Nat) (e : Ending) (w' : World) : Prop := ∃ A m c, e = .returned (.slice A m c) ∧ k ≤ m ∧ m ≤ n ∧ Below w.heap.size w w'

def LOCompactInts (n : Nat) : Nat := 0
def LOCompactRest (n : Nat) : Nat := n

section
variable (A : Option Addr) (n c B : Nat) (f : Nat → Int) (w : World)

set_option maxHeartbeats 1000000 in
theorem implReverseInts (hn : n * 8 ≤ 140737488351232) (hrd : Rd w B (Value.int .i64) A n f) :
    Calls Try.prog 39 #[.slice A n c] w (OutLen w n n) := by
  have HNu := Lib.hid (numbersB A n c B f w hn hrd)
  have HSt := Lib.hid (fun (w1 : World) (g cap : Nat) (G : Nat → Value) (hr : w1.rowIs g 3 (cap * 1) G) (hnc : n ≤ cap) (hG : ∀ k, k < n * 1 → G k = .int .i64 (f k)) =>
    Try.slices_Reverse_int g 0 cap (listOf f n) w1 (holds_row (Value.int .i64) hr (listOf f n) (by rw [listOf_len]; omega) (fun k x hx => by
      have hk : k < n := by have := (List.getElem?_eq_some_iff.1 hx).1; rw [listOf_len] at this; exact this
      rw [listOf_get hk] at hx
      rw [← Option.some.inj hx]; exact hG k (by omega))) (by rw [listOf_len]; omega))
  have HSn := Lib.hid (fun (w1 : World) => Try.slices_Reverse_int_empty none 0 w1)
  simp only [listOf_len] at HSt
  clear hrd
  go_enter Try.func39, Try.ntmps39
  go_wp2_with fail
  refine HNu.out.mono ?_
  rintro e w1 ⟨v1, rfl, ⟨G, hG, hF⟩, hb1⟩
  have H1 := Lib.hid hb1
  rcases hG with ⟨rfl, h0⟩ | ⟨g, cap, rfl, hg, hnc, hr⟩
  · have HC := Lib.hid (HSn.out w1)
    have H0 := Lib.hid h0
    clear h0 hF hb1 HSn HSt HNu
    go_wp2_with fail
    refine HC.out.mono ?_
    rintro e w2 ⟨rfl, rfl⟩
    go_wp2_with fail
    go_ret
    exact ⟨none, 0, 0, rfl, by have := H0.out; omega, Nat.zero_le _, H1.out⟩
  · have HC := Lib.hid (HSt.out w1 g cap G hr hnc hF)
    have HGg := Lib.hid (And.intro hg hr.lt)
    clear hF hb1 HSn HSt HNu hg hnc hr
    go_wp2_with fail
    refine HC.out.mono ?_
    rintro e w2 ⟨rfl, q, hw2⟩
    have HB : Hid (Below w.heap.size w w2) := Lib.hid (H1.out.trans (by
      rw [hw2]
      exact (below_put_at (Value.int .i64) w1 g 0 _ q).mono HGg.out.1))
    clear hw2
    go_wp2_with fail
    go_ret
    exact ⟨_, n, cap, rfl, Nat.le_refl _, Nat.le_refl _, HB.out⟩

set_option maxHeartbeats 1000000 in
theorem implCompactInts (hn : n * 8 ≤ 140737488351232) (hrd : Rd w B (Value.int .i64) A n f) :
    Calls Try.prog 40 #[.slice A n c] w (OutLen w (LOCompactInts n) n) := by
  have HNu := Lib.hid (numbersB A n c B f w hn hrd)
  have HSt := Lib.hid (fun (w1 : World) (g cap : Nat) (G : Nat → Value) (hr : w1.rowIs g 3 (cap * 1) G) (hnc : n ≤ cap) (hG : ∀ k, k < n * 1 → G k = .int .i64 (f k)) =>
    Try.slices_Compact_int g 0 cap (listOf f n) w1 (holds_row (Value.int .i64) hr (listOf f n) (by rw [listOf_len]; omega) (fun k x hx => by
      have hk : k < n := by have := (List.getElem?_eq_some_iff.1 hx).1; rw [listOf_len] at this; exact this
      rw [listOf_get hk] at hx
      rw [← Option.some.inj hx]; exact hG k (by omega))) (by rw [listOf_len]; omega) (by rw [listOf_len]; exact hnc))
  have HSn := Lib.hid (fun (w1 : World) => Try.slices_Compact_int_empty none 0 w1)
  have hcl : (Lib.compact (listOf f n)).length ≤ n := by have := Lib.compact_length_le (listOf f n); rw [listOf_len] at this; exact this
  simp only [listOf_len] at HSt
  generalize (Lib.compact (listOf f n)).length = m at *
  clear hrd
  go_enter Try.func40, Try.ntmps40
  go_wp2_with fail
  refine HNu.out.mono ?_
  rintro e w1 ⟨v1, rfl, ⟨G, hG, hF⟩, hb1⟩
  have H1 := Lib.hid hb1
  rcases hG with ⟨rfl, h0⟩ | ⟨g, cap, rfl, hg, hnc, hr⟩
  · have HC := Lib.hid (HSn.out w1)
    have H0 := Lib.hid h0
    clear h0 hF hb1 HSn HSt HNu
    go_wp2_with fail
    refine HC.out.mono ?_
    rintro e w2 ⟨rfl, rfl⟩
    go_wp2_with fail
    go_ret
    exact ⟨none, 0, 0, rfl, by have := H0.out; unfold LOCompactInts; omega, Nat.zero_le _, H1.out⟩
  · have HC := Lib.hid (HSt.out w1 g cap G hr hnc hF)
    have HGg := Lib.hid (And.intro hg hr.lt)
    clear hF hb1 HSn HSt HNu hg hnc hr
    go_wp2_with fail
    refine HC.out.mono ?_
    rintro e w2 ⟨rfl, q, hw2⟩
    have HB : Hid (Below w.heap.size w w2) := Lib.hid (H1.out.trans (by
      rw [hw2]
      exact (below_put_at (Value.int .i64) w1 g 0 _ q).mono HGg.out.1))
    clear hw2
    go_wp2_with fail
    go_ret
    first
      | exact ⟨_, m, cap, rfl, by unfold LOCompactInts; omega, hcl, HB.out⟩
      | exact ⟨_, n, cap, rfl, by unfold LOCompactInts; omega, Nat.le_refl _, HB.out⟩
set_option maxHeartbeats 1000000 in
theorem implCompactRest (hn : n * 8 ≤ 140737488351232) (hrd : Rd w B (Value.int .i64) A n f) :
    Calls Try.prog 41 #[.slice A n c] w (OutLen w (LOCompactRest n) n) := by
  have HNu := Lib.hid (numbersB A n c B f w hn hrd)
  have HSt := Lib.hid (fun (w1 : World) (g cap : Nat) (G : Nat → Value) (hr : w1.rowIs g 3 (cap * 1) G) (hnc : n ≤ cap) (hG : ∀ k, k < n * 1 → G k = .int .i64 (f k)) =>
    Try.slices_Compact_int g 0 cap (listOf f n) w1 (holds_row (Value.int .i64) hr (listOf f n) (by rw [listOf_len]; omega) (fun k x hx => by
      have hk : k < n := by have := (List.getElem?_eq_some_iff.1 hx).1; rw [listOf_len] at this; exact this
      rw [listOf_get hk] at hx
      rw [← Option.some.inj hx]; exact hG k (by omega))) (by rw [listOf_len]; omega) (by rw [listOf_len]; exact hnc))
  have HSn := Lib.hid (fun (w1 : World) => Try.slices_Compact_int_empty none 0 w1)
  have hcl : (Lib.compact (listOf f n)).length ≤ n := by have := Lib.compact_length_le (listOf f n); rw [listOf_len] at this; exact this
  simp only [listOf_len] at HSt
  generalize (Lib.compact (listOf f n)).length = m at *
  clear hrd
  go_enter Try.func41, Try.ntmps41
  go_wp2_with fail
  refine HNu.out.mono ?_
  rintro e w1 ⟨v1, rfl, ⟨G, hG, hF⟩, hb1⟩
  have H1 := Lib.hid hb1
  rcases hG with ⟨rfl, h0⟩ | ⟨g, cap, rfl, hg, hnc, hr⟩
  · have HC := Lib.hid (HSn.out w1)
    have H0 := Lib.hid h0
    clear h0 hF hb1 HSn HSt HNu
    go_wp2_with fail
    refine HC.out.mono ?_
    rintro e w2 ⟨rfl, rfl⟩
    go_wp2_with fail
    go_ret
    exact ⟨none, 0, 0, rfl, by have := H0.out; unfold LOCompactRest; omega, Nat.zero_le _, H1.out⟩
  · have HC := Lib.hid (HSt.out w1 g cap G hr hnc hF)
    have HGg := Lib.hid (And.intro hg hr.lt)
    clear hF hb1 HSn HSt HNu hg hnc hr
    go_wp2_with fail
    refine HC.out.mono ?_
    rintro e w2 ⟨rfl, q, hw2⟩
    have HB : Hid (Below w.heap.size w w2) := Lib.hid (H1.out.trans (by
      rw [hw2]
      exact (below_put_at (Value.int .i64) w1 g 0 _ q).mono HGg.out.1))
    clear hw2
    go_wp2_with fail
    go_ret
    first
      | exact ⟨_, m, cap, rfl, by unfold LOCompactRest; omega, hcl, HB.out⟩
      | exact ⟨_, n, cap, rfl, by unfold LOCompactRest; omega, Nat.le_refl _, HB.out⟩
end

set_option maxRecDepth 100000 in
set_option maxHeartbeats 4000000 in
theorem fnSortsKeepArgumentw (w : World) (A : Option Addr) (n c : Nat) (f : Nat → Int) (hf64 : ∀ i, I64 (f i)) (hl : n ≤ c) (hre : c * 8 ≤ 140737488351232) (hrd : Rd w w.heap.size (Value.int .i64) A n f) :
    Calls Try.prog 13 #[.slice A n c] w fun e w' => e = .returned (.bool true) ∧ Below w.heap.size w w' := by
  have hn : n * 8 ≤ 140737488351232 := by omega
  have hnn : n ≤ 4611686018427387903 := by omega
  have hee : ((n : Int) == (n : Int)) = true := by simp
  obtain ⟨i, hi, hz, hs, hby⟩ := info_parts infoIntB
  have HI := Lib.hid (fun w' A1 c1 B (hr : Rd w' B (Value.int .i64) A1 n f) => implSortInts A1 n c1 B f w' hn hr)
  have HJ := Lib.hid (fun w' A1 c1 B (hr : Rd w' B (Value.int .i64) A1 n f) => implSortSortInts A1 n c1 B f w' hn hr)
  have HV := Lib.hid (fun w' A1 c1 B (hr : Rd w' B (Value.int .i64) A1 n f) => implReverseInts A1 n c1 B f w' hn hr)
  have HK := Lib.hid (fun w' A1 c1 B (hr : Rd w' B (Value.int .i64) A1 n f) => implCompactInts A1 n c1 B f w' hn hr)
  have HL := Lib.hid (fun w' A1 c1 B (hr : Rd w' B (Value.int .i64) A1 n f) => implCompactRest A1 n c1 B f w' hn hr)
  have HP := Lib.hid (fun w' A1 c1 B (hr : Rd w' B (Value.int .i64) A1 n f) Ap hrp => implReverseParts A1 n c1 B f Ap 1 1 w'.heap.size (fun _ => (0, (n : Int))) w' hn (by omega) hr (Nat.le_refl _) hrp (fun _ => ⟨i64_zero, by unfold I64; dsimp only; omega⟩))
  have HR := Lib.hid hrd
  clear hrd hf64 hre hl
  go_enter Try.func13, Try.ntmps13
  go_wp2_with (at_builtin; refine wpList_copy_nil rfl _ _ 22 rfl 3 i _ 1 8 Try.underlying22 hi hz hs hby rfl (by omega) A n c (fun j => .int .i64 (f j)) rfl rfl (fun h => by obtain ⟨b, off, hA, _, hc⟩ := HR.out h; exact ⟨b, off, hA, fun j hj => hc j (by omega)⟩) (fun j hj => by simp [Value.oneCell']) (by simp [maxLen]; omega) (by omega) ?_; intro v1 w1 hcp; obtain ⟨A1, c1, rfl, hr1⟩ := Copied.rd hcp; have HB1 := Lib.hid hcp.2; have HR1 := Lib.hid hr1; clear hcp hr1)
  refine (HI.out w1 A1 c1 _ HR1.out).mono ?_
  intro e w2 h2
  obtain ⟨A2, c2, rfl, _, hb2⟩ := h2.rd
  have HB2 := Lib.hid (HB1.out.trans (hb2.mono HB1.out.size))
  have HR2 := Lib.hid (HR1.out.keep hb2 (Nat.le_refl _))
  have HS2 := Lib.hid hb2.size
  clear hb2 h2
  go_wp2_with fail
  refine (HJ.out w2 A1 c1 _ HR2.out).mono ?_
  intro e w3 h3
  obtain ⟨A3, c3, rfl, _, hb3⟩ := h3.rd
  have HB3 := Lib.hid (HB2.out.trans (hb3.mono HB2.out.size))
  have HR3 := Lib.hid (HR2.out.keep hb3 HS2.out)
  have HS3 := Lib.hid (Nat.le_trans HS2.out hb3.size)
  clear hb3 h3
  go_wp2_with fail
  refine (HV.out w3 A1 c1 _ HR3.out).mono ?_
  rintro e w4 ⟨A4, k4, c4, rfl, hk4, hk4', hb4⟩
  obtain rfl : k4 = n := by omega
  have HB4 := Lib.hid (HB3.out.trans (hb4.mono HB3.out.size))
  have HR4 := Lib.hid (HR3.out.keep hb4 HS3.out)
  have HS4 := Lib.hid (Nat.le_trans HS3.out hb4.size)
  clear hb4 hk4 hk4'
  go_wp2_with fail
  refine (HK.out w4 A1 c1 _ HR4.out).mono ?_
  rintro e w5 ⟨A5, k5, c5, rfl, hk5, hk5', hb5⟩
  have HB5 := Lib.hid (HB4.out.trans (hb5.mono HB4.out.size))
  have HR5 := Lib.hid (HR4.out.keep hb5 HS4.out)
  have HS5 := Lib.hid (Nat.le_trans HS4.out hb5.size)
  have hk5z : (k5 : Int) ≤ (k4 : Int) := by omega
  clear hb5 hk5
  go_wp2_with fail
  refine (HL.out w5 A1 c1 _ HR5.out).mono ?_
  rintro e w6 ⟨A6, k6, c6, rfl, hk6, hk6', hb6⟩
  obtain rfl : k6 = k4 := by unfold LOCompactRest at hk6; omega
  have HB6 := Lib.hid (HB5.out.trans (hb6.mono HB5.out.size))
  have HR6 := Lib.hid (HR5.out.keep hb6 HS5.out)
  have HS6 := Lib.hid (Nat.le_trans HS5.out hb6.size)
  clear hb6 hk6 hk6'
  go_wp2_with fail
  have HA6 := Lib.hid ((Below.refl w6.heap.size w6).alloc (Nat.le_refl _) (.cells #[.int .i64 0, .int .i64 (k6 : Int)] 34))
  have HRp : Hid (RdI (w6.alloc (.cells #[.int .i64 0, .int .i64 (k6 : Int)] 34)) (w6.alloc (.cells #[.int .i64 0, .int .i64 (k6 : Int)] 34)).heap.size (some ⟨w6.heap.size, 0, none⟩) 1 (fun _ => (0, (k6 : Int)))) := Lib.hid (fun _ => ⟨w6.heap.size, 0, rfl, by simp, fun u hu => by
    obtain rfl : u = 0 := by omega
    exact ⟨by simp [go_sem], by simp [go_sem]⟩⟩)
  refine (HP.out _ A1 c1 _ (HR6.out.keep HA6.out HS6.out) _ HRp.out).mono ?_
  rintro e w7 ⟨h7, _, h7'⟩
  obtain ⟨A7, c7, rfl, _, hb7⟩ := h7'.rd
  have HB7 := Lib.hid ((HB6.out.trans (HA6.out.mono HB6.out.size)).trans (hb7.mono (Nat.le_trans HB6.out.size HA6.out.size)))
  have HR7 := Lib.hid ((HR6.out.keep HA6.out HS6.out).keep hb7 (Nat.le_trans HS6.out HA6.out.size))
  have HE := Lib.hid (sameInts k6 k6 c c1 A A1 f f w7 _ _ hnn hnn (HR.out.keep HB7.out (Nat.le_refl _)) HR7.out)
  clear hb7 h7'
  go_wp2_with fail
  refine HE.out.mono ?_
  rintro e w8 ⟨b8, rfl, hb8, q8, rfl⟩
  obtain rfl : b8 = true := hb8.2 ⟨rfl, fun _ _ => rfl⟩
  clear hb8
  go_wp2_with fail
  go_ret
  exact ⟨rfl, below_drewN HB7.out q8⟩
end Go.Proofs.Ytjddpbamnjdjcaa
