/-
  The walks of before, sign and the closure of impl.SortByOrder, with the exact form of memory behind them: new blocks and draws alone. Printed by tools/ordg.py out of Ord and Ord2.
-/
import Derived.Test.YtjammaglboehcaaOrd2
import Derived.Sort.Grow
namespace Go.Proofs.Ytjammaglboehcaa
open Go.RowKit Go.Proofs
set_option linter.unusedVariables false

/-- New blocks and draws alone. -/
def Gr (w w' : World) : Prop := ∃ q os, w' = Sort.grow (w.drewN q) os
theorem gr_refl (w : World) : Gr w w := ⟨0, #[], by rw [Sort.grow_empty]; rfl⟩
theorem gr_alloc (w : World) (o : Obj) : Gr w (w.alloc o) := ⟨0, #[o], by rw [Sort.alloc_eq_grow]; rfl⟩
theorem Gr.drewN {w w' : World} (h : Gr w w') (k : Nat) : Gr w (w'.drewN k) := by
  obtain ⟨q, os, rfl⟩ := h
  exact ⟨q + k, os, by show Sort.grow ((w.drewN q).drewN k) os = _; rw [World.drewN_drewN]⟩
theorem Gr.trans {a b c : World} (h : Gr a b) (h' : Gr b c) : Gr a c := by
  obtain ⟨q, os, rfl⟩ := h
  obtain ⟨q', os', rfl⟩ := h'
  exact ⟨q + q', os ++ os', by
    show Sort.grow (Sort.grow ((a.drewN q).drewN q') os) os' = _
    rw [Sort.grow_grow, World.drewN_drewN]⟩
theorem Gr.below {w w' : World} (h : Gr w w') : Below w.heap.size w w' := by
  obtain ⟨q, os, rfl⟩ := h
  refine ⟨rfl, rfl, rfl, ?_, fun k hk => ?_⟩
  · show w.heap.size ≤ (w.heap ++ os).size; rw [Array.size_append]; omega
  · show (w.heap ++ os)[k]? = w.heap[k]?; rw [Array.getElem?_append_left hk]
def GivesG (v : Value) (w : World) (e : Ending) (w' : World) : Prop := e = .returned v ∧ Gr w w'

set_option maxHeartbeats 1000000 in
theorem beforeG_out1 (sz a b : Int) (A : Option Addr) (m c : Nat) (w : World) (h0 : a < 0) :
    Calls Try.prog 69 #[.agg #[.int .i64 sz, .slice A m c], .int .i64 a, .int .i64 b] w (GivesG (.bool false) w) := by
  have HBel := Lib.hid (fun o => gr_alloc w o)
  have hd0 : decide (a < 0) = true := decide_eq_true (by omega)
  clear h0
  go_enter Try.func69, Try.ntmps69
  go_wp2_with fail
  go_quiet (fail)
  go_wp2_with fail
  go_ret
  exact ⟨rfl, Gr.drewN (HBel.out _) _⟩

set_option maxHeartbeats 1000000 in
theorem beforeG_out2 (sz a b : Int) (A : Option Addr) (m c : Nat) (w : World) (h0 : ¬ a < 0) (h1 : b < 0) :
    Calls Try.prog 69 #[.agg #[.int .i64 sz, .slice A m c], .int .i64 a, .int .i64 b] w (GivesG (.bool false) w) := by
  have HBel := Lib.hid (fun o => gr_alloc w o)
  have hd0 : decide (a < 0) = false := decide_eq_false (by omega)
  have hd1 : decide (b < 0) = true := decide_eq_true (by omega)
  clear h0 h1
  go_enter Try.func69, Try.ntmps69
  go_wp2_with fail
  go_quiet (fail)
  go_wp2_with fail
  go_ret
  exact ⟨rfl, Gr.drewN (HBel.out _) _⟩

set_option maxHeartbeats 1000000 in
theorem beforeG_out3 (sz a b : Int) (A : Option Addr) (m c : Nat) (w : World) (h0 : ¬ a < 0) (h1 : ¬ b < 0) (h2 : sz ≤ a) :
    Calls Try.prog 69 #[.agg #[.int .i64 sz, .slice A m c], .int .i64 a, .int .i64 b] w (GivesG (.bool false) w) := by
  have HBel := Lib.hid (fun o => gr_alloc w o)
  have hd0 : decide (a < 0) = false := decide_eq_false (by omega)
  have hd1 : decide (b < 0) = false := decide_eq_false (by omega)
  have hd2 : decide (sz ≤ a) = true := decide_eq_true (by omega)
  clear h0 h1 h2
  go_enter Try.func69, Try.ntmps69
  go_wp2_with fail
  go_quiet (fail)
  go_wp2_with fail
  go_ret
  exact ⟨rfl, Gr.drewN (HBel.out _) _⟩

set_option maxHeartbeats 1000000 in
theorem beforeG_out4 (sz a b : Int) (A : Option Addr) (m c : Nat) (w : World) (h0 : ¬ a < 0) (h1 : ¬ b < 0) (h2 : ¬ sz ≤ a) (h3 : sz ≤ b) :
    Calls Try.prog 69 #[.agg #[.int .i64 sz, .slice A m c], .int .i64 a, .int .i64 b] w (GivesG (.bool false) w) := by
  have HBel := Lib.hid (fun o => gr_alloc w o)
  have hd0 : decide (a < 0) = false := decide_eq_false (by omega)
  have hd1 : decide (b < 0) = false := decide_eq_false (by omega)
  have hd2 : decide (sz ≤ a) = false := decide_eq_false (by omega)
  have hd3 : decide (sz ≤ b) = true := decide_eq_true (by omega)
  clear h0 h1 h2 h3
  go_enter Try.func69, Try.ntmps69
  go_wp2_with fail
  go_quiet (fail)
  go_wp2_with fail
  go_ret
  exact ⟨rfl, Gr.drewN (HBel.out _) _⟩

set_option maxHeartbeats 1000000 in
theorem beforeG_out5 (sz a b : Int) (A : Option Addr) (m c : Nat) (w : World) (h0 : ¬ a < 0) (h1 : ¬ b < 0) (h2 : ¬ sz ≤ a) (h3 : ¬ sz ≤ b) (hm : m ≤ 140737488351232) (h5 : 0 < a) (h6 : (m : Int) / a < sz) :
    Calls Try.prog 69 #[.agg #[.int .i64 sz, .slice A m c], .int .i64 a, .int .i64 b] w (GivesG (.bool false) w) := by
  have HBel := Lib.hid (fun o => gr_alloc w o)
  have hd0 : decide (a < 0) = false := decide_eq_false (by omega)
  have hd1 : decide (b < 0) = false := decide_eq_false (by omega)
  have hd2 : decide (sz ≤ a) = false := decide_eq_false (by omega)
  have hd3 : decide (sz ≤ b) = false := decide_eq_false (by omega)
  have hd5 : decide (0 < a) = true := decide_eq_true h5
  have hq : IntKind.i64.wrap ((m : Int) / a) = (m : Int) / a := IntWalk.i64_in _ (by have := IntWalk.tdiv_le (m : Int) a (by omega) (by omega); omega)
  have hd6 : decide ((m : Int) / a < sz) = true := decide_eq_true h6
  have ha0 : (a == 0) = false := by simp; omega
  have ha1 : ¬ (a = 0) := by omega
  go_enter Try.func69, Try.ntmps69
  go_wp2_with fail
  go_quiet (fail)
  go_wp2_with fail
  go_ret
  exact ⟨rfl, Gr.drewN (HBel.out _) _⟩

set_option maxHeartbeats 1000000 in
theorem beforeG_out6 (sz a b : Int) (A : Option Addr) (m c : Nat) (w : World) (h0 : ¬ a < 0) (h1 : ¬ b < 0) (h2 : ¬ sz ≤ a) (h3 : ¬ sz ≤ b) (hm : m ≤ 140737488351232) (h5 : 0 < a) (h6 : ¬ (m : Int) / a < sz) (hw1 : IntKind.i64.wrap (a * sz) = a * sz) (hw2 : IntKind.i64.wrap (a * sz + b) = a * sz + b) (h7 : (m : Int) ≤ a * sz + b) :
    Calls Try.prog 69 #[.agg #[.int .i64 sz, .slice A m c], .int .i64 a, .int .i64 b] w (GivesG (.bool false) w) := by
  have HBel := Lib.hid (fun o => gr_alloc w o)
  have hd0 : decide (a < 0) = false := decide_eq_false (by omega)
  have hd1 : decide (b < 0) = false := decide_eq_false (by omega)
  have hd2 : decide (sz ≤ a) = false := decide_eq_false (by omega)
  have hd3 : decide (sz ≤ b) = false := decide_eq_false (by omega)
  have hd5 : decide (0 < a) = true := decide_eq_true h5
  have hq : IntKind.i64.wrap ((m : Int) / a) = (m : Int) / a := IntWalk.i64_in _ (by have := IntWalk.tdiv_le (m : Int) a (by omega) (by omega); omega)
  have hd6 : decide ((m : Int) / a < sz) = false := decide_eq_false h6
  have ha0 : (a == 0) = false := by simp; omega
  have ha1 : ¬ (a = 0) := by omega
  have hd7 : decide ((m : Int) ≤ a * sz + b) = true := decide_eq_true h7
  go_enter Try.func69, Try.ntmps69
  go_wp2_with fail
  go_quiet (fail)
  go_wp2_with fail
  go_ret
  exact ⟨rfl, Gr.drewN (HBel.out _) _⟩

set_option maxHeartbeats 1000000 in
theorem beforeG_in6 (sz a b : Int) (A : Option Addr) (m c B : Nat) (f : Nat → Bool) (w : World) (h0 : ¬ a < 0) (h1 : ¬ b < 0) (h2 : ¬ sz ≤ a) (h3 : ¬ sz ≤ b) (hm : m ≤ 140737488351232) (h5 : 0 < a) (h6 : ¬ (m : Int) / a < sz) (hw1 : IntKind.i64.wrap (a * sz) = a * sz) (hw2 : IntKind.i64.wrap (a * sz + b) = a * sz + b) (h7 : ¬ (m : Int) ≤ a * sz + b) (hB : B ≤ w.heap.size) (hrd : Rd w B Value.bool A m f) :
    Calls Try.prog 69 #[.agg #[.int .i64 sz, .slice A m c], .int .i64 a, .int .i64 b] w (GivesG (.bool (f (a * sz + b).toNat)) w) := by
  have HBel := Lib.hid (fun o => gr_alloc w o)
  have hnn : 0 ≤ a * sz + b := by have := Int.mul_nonneg (show 0 ≤ a by omega) (show 0 ≤ sz by omega); omega
  obtain ⟨bb, off, rfl, _, hc⟩ := (hrd.alloc hB (.cells #[.int .i64 sz, .slice A m c] 33)).at (i := (a * sz + b).toNat) (by omega)
  clear hrd hB
  have hd0 : decide (a < 0) = false := decide_eq_false (by omega)
  have hd1 : decide (b < 0) = false := decide_eq_false (by omega)
  have hd2 : decide (sz ≤ a) = false := decide_eq_false (by omega)
  have hd3 : decide (sz ≤ b) = false := decide_eq_false (by omega)
  have hd5 : decide (0 < a) = true := decide_eq_true h5
  have hq : IntKind.i64.wrap ((m : Int) / a) = (m : Int) / a := IntWalk.i64_in _ (by have := IntWalk.tdiv_le (m : Int) a (by omega) (by omega); omega)
  have hd6 : decide ((m : Int) / a < sz) = false := decide_eq_false h6
  have ha0 : (a == 0) = false := by simp; omega
  have ha1 : ¬ (a = 0) := by omega
  have hd7 : decide ((m : Int) ≤ a * sz + b) = false := decide_eq_false h7
  have hlt : a * sz + b < (m : Int) := by omega
  go_enter Try.func69, Try.ntmps69
  go_wp2_with fail
  go_quiet (fail)
  go_wp2_with fail
  first | go_ret | (go_quiet (fail); go_wp2_with fail; go_ret)
  first | exact ⟨rfl, Gr.drewN (HBel.out _) _⟩ | exact ⟨rfl, Gr.drewN (Gr.drewN (HBel.out _) _) _⟩

set_option maxHeartbeats 1000000 in
theorem beforeG_out7 (sz a b : Int) (A : Option Addr) (m c : Nat) (w : World) (h0 : ¬ a < 0) (h1 : ¬ b < 0) (h2 : ¬ sz ≤ a) (h3 : ¬ sz ≤ b) (hm : m ≤ 140737488351232) (h5 : ¬ 0 < a) (hw1 : IntKind.i64.wrap (a * sz) = a * sz) (hw2 : IntKind.i64.wrap (a * sz + b) = a * sz + b) (h7 : (m : Int) ≤ a * sz + b) :
    Calls Try.prog 69 #[.agg #[.int .i64 sz, .slice A m c], .int .i64 a, .int .i64 b] w (GivesG (.bool false) w) := by
  have HBel := Lib.hid (fun o => gr_alloc w o)
  have hd0 : decide (a < 0) = false := decide_eq_false (by omega)
  have hd1 : decide (b < 0) = false := decide_eq_false (by omega)
  have hd2 : decide (sz ≤ a) = false := decide_eq_false (by omega)
  have hd3 : decide (sz ≤ b) = false := decide_eq_false (by omega)
  have hd5 : decide (0 < a) = false := decide_eq_false h5
  have hd7 : decide ((m : Int) ≤ a * sz + b) = true := decide_eq_true h7
  go_enter Try.func69, Try.ntmps69
  go_wp2_with fail
  go_quiet (fail)
  go_wp2_with fail
  go_ret
  exact ⟨rfl, Gr.drewN (HBel.out _) _⟩

set_option maxHeartbeats 1000000 in
theorem beforeG_in7 (sz a b : Int) (A : Option Addr) (m c B : Nat) (f : Nat → Bool) (w : World) (h0 : ¬ a < 0) (h1 : ¬ b < 0) (h2 : ¬ sz ≤ a) (h3 : ¬ sz ≤ b) (hm : m ≤ 140737488351232) (h5 : ¬ 0 < a) (hw1 : IntKind.i64.wrap (a * sz) = a * sz) (hw2 : IntKind.i64.wrap (a * sz + b) = a * sz + b) (h7 : ¬ (m : Int) ≤ a * sz + b) (hB : B ≤ w.heap.size) (hrd : Rd w B Value.bool A m f) :
    Calls Try.prog 69 #[.agg #[.int .i64 sz, .slice A m c], .int .i64 a, .int .i64 b] w (GivesG (.bool (f (a * sz + b).toNat)) w) := by
  have HBel := Lib.hid (fun o => gr_alloc w o)
  have hnn : 0 ≤ a * sz + b := by have := Int.mul_nonneg (show 0 ≤ a by omega) (show 0 ≤ sz by omega); omega
  obtain ⟨bb, off, rfl, _, hc⟩ := (hrd.alloc hB (.cells #[.int .i64 sz, .slice A m c] 33)).at (i := (a * sz + b).toNat) (by omega)
  clear hrd hB
  have hd0 : decide (a < 0) = false := decide_eq_false (by omega)
  have hd1 : decide (b < 0) = false := decide_eq_false (by omega)
  have hd2 : decide (sz ≤ a) = false := decide_eq_false (by omega)
  have hd3 : decide (sz ≤ b) = false := decide_eq_false (by omega)
  have hd5 : decide (0 < a) = false := decide_eq_false h5
  have hd7 : decide ((m : Int) ≤ a * sz + b) = false := decide_eq_false h7
  have hlt : a * sz + b < (m : Int) := by omega
  go_enter Try.func69, Try.ntmps69
  go_wp2_with fail
  go_quiet (fail)
  go_wp2_with fail
  first | go_ret | (go_quiet (fail); go_wp2_with fail; go_ret)
  first | exact ⟨rfl, Gr.drewN (HBel.out _) _⟩ | exact ⟨rfl, Gr.drewN (Gr.drewN (HBel.out _) _) _⟩

theorem beforeG (sz a b : Int) (A : Option Addr) (m c B : Nat) (f : Nat → Bool) (w : World) (hsz : I64 sz) (ha : I64 a) (hb : I64 b) (hm : m ≤ 140737488351232) (hB : B ≤ w.heap.size) (hrd : Rd w B Value.bool A m f) :
    Calls Try.prog 69 #[.agg #[.int .i64 sz, .slice A m c], .int .i64 a, .int .i64 b] w (GivesG (.bool (relB sz m f a b)) w) := by
  unfold I64 at hsz ha hb
  by_cases h0 : a < 0
  · rw [relB_false (fun h => by omega)]; exact beforeG_out1 sz a b A m c w h0
  by_cases h1 : b < 0
  · rw [relB_false (fun h => by omega)]; exact beforeG_out2 sz a b A m c w h0 h1
  by_cases h2 : sz ≤ a
  · rw [relB_false (fun h => by omega)]; exact beforeG_out3 sz a b A m c w h0 h1 h2
  by_cases h3 : sz ≤ b
  · rw [relB_false (fun h => by omega)]; exact beforeG_out4 sz a b A m c w h0 h1 h2 h3
  by_cases h5 : 0 < a
  · have hdv : (m : Int) / a < sz ↔ (m : Int) < a * sz := by rw [Int.ediv_lt_iff_lt_mul h5, Int.mul_comm]
    by_cases h6 : (m : Int) / a < sz
    · rw [relB_false (fun h => by have := hdv.1 h6; omega)]; exact beforeG_out5 sz a b A m c w h0 h1 h2 h3 hm h5 h6
    · have hle : a * sz ≤ (m : Int) := by have := mt hdv.2 h6; omega
      have h8 : 1 * sz ≤ a * sz := Int.mul_le_mul_of_nonneg_right (by omega) (by omega)
      have hw1 : IntKind.i64.wrap (a * sz) = a * sz := IntWalk.i64_in _ (by omega)
      have hw2 : IntKind.i64.wrap (a * sz + b) = a * sz + b := IntWalk.i64_in _ (by omega)
      by_cases h7 : (m : Int) ≤ a * sz + b
      · rw [relB_false (fun h => by omega)]; exact beforeG_out6 sz a b A m c w h0 h1 h2 h3 hm h5 h6 hw1 hw2 h7
      · rw [relB_true (by omega)]; exact beforeG_in6 sz a b A m c B f w h0 h1 h2 h3 hm h5 h6 hw1 hw2 h7 hB hrd
  · have ha0 : a * sz = 0 := by rw [show a = 0 by omega, Int.zero_mul]
    have hw1 : IntKind.i64.wrap (a * sz) = a * sz := IntWalk.i64_in _ (by omega)
    have hw2 : IntKind.i64.wrap (a * sz + b) = a * sz + b := IntWalk.i64_in _ (by omega)
    by_cases h7 : (m : Int) ≤ a * sz + b
    · rw [relB_false (fun h => by omega)]; exact beforeG_out7 sz a b A m c w h0 h1 h2 h3 hm h5 hw1 hw2 h7
    · rw [relB_true (by omega)]; exact beforeG_in7 sz a b A m c B f w h0 h1 h2 h3 hm h5 hw1 hw2 h7 hB hrd

set_option maxHeartbeats 1000000 in
theorem signG (sz a b : Int) (A : Option Addr) (m c B : Nat) (f : Nat → Bool) (w : World) (hsz : I64 sz) (ha : I64 a) (hb : I64 b) (hm : m ≤ 140737488351232) (hB : B ≤ w.heap.size) (hrd : Rd w B Value.bool A m f) :
    Calls Try.prog 49 #[.agg #[.int .i64 sz, .slice A m c], .int .i64 a, .int .i64 b] w (GivesG (.int .i64 (signI (relB sz m f) a b)) w) := by
  have HC := Lib.hid (fun a b w' (ha : I64 a) (hb : I64 b) (hbel : Gr w w') => beforeG sz a b A m c B f w' hsz ha hb hm (Nat.le_trans hB hbel.below.size) (hrd.keep hbel.below hB))
  have HA := Lib.hid ha; have HB := Lib.hid hb
  have HBel := Lib.hid (fun o => gr_alloc w o)
  clear hrd hB ha hb hsz
  unfold signI
  generalize relB sz m f = r at *
  have HC1 := Lib.hid (fun w' hbel => HC.out a b w' HA.out HB.out hbel)
  have HC2 := Lib.hid (fun w' hbel => HC.out b a w' HB.out HA.out hbel)
  clear HC
  cases h1 : r a b
  · cases h2 : r b a
    · rw [h1] at HC1; rw [h2] at HC2
      clear h1 h2
      go_enter Try.func49, Try.ntmps49
      go_wp2_with fail
      refine (HC1.out _ (HBel.out _)).mono ?_
      rintro e w1 ⟨rfl, hb1⟩
      have HB1 := Lib.hid ((HBel.out _).trans hb1)
      have hc0 := box_keep hb1.below 0 rfl
      have hc1 := box_keep hb1.below 1 rfl
      clear hb1 HC1
      go_wp2_with fail
      refine (HC2.out _ HB1.out).mono ?_
      rintro e w2 ⟨rfl, hb2⟩
      have HB2 := Lib.hid (HB1.out.trans hb2); clear hb2
      go_wp2_with fail
      go_ret
      exact ⟨rfl, HB2.out⟩
    · rw [h1] at HC1; rw [h2] at HC2
      clear h1 h2
      go_enter Try.func49, Try.ntmps49
      go_wp2_with fail
      refine (HC1.out _ (HBel.out _)).mono ?_
      rintro e w1 ⟨rfl, hb1⟩
      have HB1 := Lib.hid ((HBel.out _).trans hb1)
      have hc0 := box_keep hb1.below 0 rfl
      have hc1 := box_keep hb1.below 1 rfl
      clear hb1 HC1
      go_wp2_with fail
      refine (HC2.out _ HB1.out).mono ?_
      rintro e w2 ⟨rfl, hb2⟩
      have HB2 := Lib.hid (HB1.out.trans hb2); clear hb2
      go_wp2_with fail
      go_ret
      exact ⟨rfl, HB2.out⟩
  · rw [h1] at HC1
    clear h1 HC2
    go_enter Try.func49, Try.ntmps49
    go_wp2_with fail
    refine (HC1.out _ (HBel.out _)).mono ?_
    rintro e w1 ⟨rfl, hb1⟩
    have HB1 := Lib.hid ((HBel.out _).trans hb1)
    clear hb1 HC1
    go_wp2_with fail
    go_ret
    exact ⟨rfl, HB1.out⟩

set_option maxHeartbeats 1000000 in
/-- The closure over a relation. -/
theorem byOrderG (sz a b : Int) (A : Option Addr) (m c B g : Nat) (f : Nat → Bool) (w : World) (hsz : I64 sz) (ha : I64 a) (hb : I64 b) (hm : m ≤ 140737488351232) (hB : B ≤ w.heap.size) (hrd : Rd w B Value.bool A m f) (hg : OrdBox w g sz A m c) :
    Calls Try.prog 48 #[.int .i64 a, .int .i64 b, .pointer (some ⟨g, 0, none⟩)] w (GivesG (.int .i64 (signI (relB sz m f) a b)) w) := by
  have HC := Lib.hid (signG sz a b A m c B f w hsz ha hb hm hB hrd)
  obtain ⟨hc0, hc1⟩ := hg
  clear hrd hB ha hb hsz
  generalize signI (relB sz m f) a b = r at *
  go_enter Try.func48, Try.ntmps48
  go_wp2_with fail
  refine HC.out.mono ?_
  rintro e w1 ⟨rfl, hb1⟩
  have HB1 := Lib.hid hb1; clear hb1
  go_wp2_with fail
  go_ret
  exact ⟨rfl, HB1.out⟩
end Go.Proofs.Ytjammaglboehcaa
