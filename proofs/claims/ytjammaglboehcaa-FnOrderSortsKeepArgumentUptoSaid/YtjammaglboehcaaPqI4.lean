/-
  The walks of sort's choosePivot and breakPatterns at an interface, and of what they call. Both keep one number in a box of memory of their own.
-/
import Derived.Test.YtjammaglboehcaaPqI2
import Derived.Test.YtjammaglboehcaaZB
import Derived.Test.YtjammaglboehcaaShelf
import Derived.Sort.Walk7a
import Derived.Sort.LotD1
namespace Go.Proofs.Ytjammaglboehcaa
open Go.RowKit Go.Proofs
set_option linter.unusedVariables false

/-- What memory must allow: a box of one cell besides the machine's. -/
structure BoxQ {σ : Type} (RX : Option (Nat × Value) → σ → World → Prop) : Prop where
  opn : ∀ s w v t, RX none s w → RX (some (w.heap.size, v)) s (w.alloc (.cells #[v] t))
  sto : ∀ s w b v v', RX (some (b, v)) s w → RX (some (b, v')) s (w.setCell ⟨b, 0, none⟩ v')
  cls : ∀ s w b v, RX (some (b, v)) s w → RX none s w
  cel : ∀ s w b v, RX (some (b, v)) s w → w.cell? ⟨b, 0, none⟩ = some v ∧ w.frozen? ⟨b, 0, none⟩ = false
  drw : ∀ x s w q, RX x s w → RX x s (w.drewN q)

/-- A value with the methods Less and Swap, over a machine, with room for a box. -/
structure IfaceQ {σ : Type} (M : Mach σ) (ok : σ → Prop) (RX : Option (Nat × Value) → σ → World → Prop) (T : TypeId) (rv : Value) (gl gs n : Nat) : Prop where
  face : ∀ x, IfaceS M ok (RX x) T rv gl gs n
  box : BoxQ RX

section
variable {σ : Type} {M : Mach σ} {ok : σ → Prop} {RX : Option (Nat × Value) → σ → World → Prop} {T : TypeId} {rv : Value} {gl gs n : Nat}

set_option maxHeartbeats 1000000 in
theorem order2I (H : IfaceQ M ok RX T rv gl gs n) (a b sw bk : Nat) (ha : a < n) (hb : b < n) (hsw : sw ≤ 1000) (s : σ) (w : World) (hR : RX (some (bk, .int .i64 (sw : Nat))) s w) (hok : ok (ord2 M a b sw s).2.2.2) :
    Calls Try.prog 142 #[.iface T rv, .int .i64 a, .int .i64 b, .pointer (some ⟨bk, 0, none⟩)] w fun e w' => e = .returned (.tuple #[.int .i64 ((ord2 M a b sw s).1 : Nat), .int .i64 ((ord2 M a b sw s).2.1 : Nat)]) ∧ RX (some (bk, .int .i64 ((ord2 M a b sw s).2.2.1 : Nat))) (ord2 M a b sw s).2.2.2 w' := by
  have hn := (H.face none).hn
  have mL := (H.face none).mL
  have eL := (H.face none).eL
  have HB := Lib.hid H.box
  cases hv : M.less s b a
  · have hF : ord2 M a b sw s = (a, b, sw, M.tick s b a) := by unfold ord2; rw [if_neg (by rw [hv]; simp)]
    have hC := (H.face _).less s w b a hb ha hR (by rw [hF] at hok; exact hok)
    rw [hv] at hC
    have HC := Lib.hid hC; have HF := Lib.hid hF
    clear hC hF hok hR H hv
    go_enter Try.func142, Try.ntmps142
    go_wp2_with fail
    refine HC.out.mono ?_
    rintro e w1 ⟨rfl, hR1⟩
    have HR1 := Lib.hid hR1; clear hR1
    go_wp2_with fail
    go_ret2
    exact ⟨by rw [HF.out]; rfl, by rw [HF.out]; exact HR1.out⟩
  · have hF : ord2 M a b sw s = (b, a, sw + 1, M.tick s b a) := by unfold ord2; rw [if_pos hv]
    have hC := (H.face _).less s w b a hb ha hR (by rw [hF] at hok; exact hok)
    rw [hv] at hC
    have HC := Lib.hid hC; have HF := Lib.hid hF
    clear hC hF hok hR H hv
    go_enter Try.func142, Try.ntmps142
    go_wp2_with fail
    refine HC.out.mono ?_
    rintro e w1 ⟨rfl, hR1⟩
    obtain ⟨z0, z1⟩ := HB.out.cel _ _ _ _ hR1
    have HR1 := Lib.hid hR1; clear hR1
    go_wp2_with fail
    go_ret2
    exact ⟨by rw [HF.out]; rfl, by rw [HF.out]; exact HB.out.sto _ _ _ _ _ HR1.out⟩

set_option maxHeartbeats 2000000 in
theorem medianI (H : IfaceQ M ok RX T rv gl gs n) (a b c sw bk : Nat) (ha : a < n) (hb : b < n) (hc : c < n) (hsw : sw ≤ 900) (s : σ) (w : World) (hR : RX (some (bk, .int .i64 (sw : Nat))) s w) (hok : ok (med M a b c sw s).2.2) :
    Calls Try.prog 129 #[.iface T rv, .int .i64 a, .int .i64 b, .int .i64 c, .pointer (some ⟨bk, 0, none⟩)] w fun e w' => e = .returned (.int .i64 ((med M a b c sw s).1 : Nat)) ∧ RX (some (bk, .int .i64 ((med M a b c sw s).2.1 : Nat))) (med M a b c sw s).2.2 w' := by
  have hn := (H.face none).hn
  have hg := (H.face none).guard
  have hO := fun a b sw ha hb hsw t w' => order2I H a b sw bk ha hb hsw t w'
  unfold med at hok ⊢
  dsimp only at hok ⊢
  have w1 := way_ord2 (M := M) (n := n) a b sw s ha hb
  have h1 := hO a b sw ha hb (by omega) s w hR
  generalize ord2 M a b sw s = r1 at *
  have w2 := way_ord2 (M := M) (n := n) r1.2.1 c r1.2.2.1 r1.2.2.2 (by omega) hc
  have h2 := fun w' hr => hO r1.2.1 c r1.2.2.1 (by omega) hc (by omega) r1.2.2.2 w' hr
  generalize ord2 M r1.2.1 c r1.2.2.1 r1.2.2.2 = r2 at *
  have w3 := way_ord2 (M := M) (n := n) r1.1 r2.1 r2.2.2.1 r2.2.2.2 (by omega) (by omega)
  have h3 := fun w' hr => hO r1.1 r2.1 r2.2.2.1 (by omega) (by omega) (by omega) r2.2.2.2 w' hr
  generalize ord2 M r1.1 r2.1 r2.2.2.1 r2.2.2.2 = r3 at *
  have ok2 := w3.1.ok hg hok
  have H1 := Lib.hid (h1 (w2.1.ok hg ok2))
  have H2 := Lib.hid (fun w' hr => h2 w' hr ok2)
  have H3 := Lib.hid (fun w' hr => h3 w' hr hok)
  obtain ⟨x1, y1, sw1, t1⟩ := r1
  obtain ⟨x2, y2, sw2, t2⟩ := r2
  obtain ⟨x3, y3, sw3, t3⟩ := r3
  dsimp only at H1 H2 H3 ⊢
  clear h1 h2 h3 w1 w2 w3 ok2 hok hR hO hg H
  go_enter Try.func129, Try.ntmps129
  go_wp2_with fail
  refine H1.out.mono ?_
  rintro e w1 ⟨rfl, hR1⟩
  have HR1 := Lib.hid hR1; clear hR1
  go_wp2_with fail
  refine (H2.out _ HR1.out).mono ?_
  rintro e w2 ⟨rfl, hR2⟩
  have HR2 := Lib.hid hR2; clear hR2
  go_wp2_with fail
  refine (H3.out _ HR2.out).mono ?_
  rintro e w3 ⟨rfl, hR3⟩
  have HR3 := Lib.hid hR3; clear hR3
  go_wp2_with fail
  go_ret
  exact ⟨rfl, HR3.out⟩

set_option maxHeartbeats 1000000 in
theorem medianAdjacentI (H : IfaceQ M ok RX T rv gl gs n) (a sw bk : Nat) (ha : 1 ≤ a) (ha2 : a + 1 < n) (hsw : sw ≤ 900) (s : σ) (w : World) (hR : RX (some (bk, .int .i64 (sw : Nat))) s w) (hok : ok (medAdj M a sw s).2.2) :
    Calls Try.prog 128 #[.iface T rv, .int .i64 a, .pointer (some ⟨bk, 0, none⟩)] w fun e w' => e = .returned (.int .i64 ((medAdj M a sw s).1 : Nat)) ∧ RX (some (bk, .int .i64 ((medAdj M a sw s).2.1 : Nat))) (medAdj M a sw s).2.2 w' := by
  have hn := (H.face none).hn
  have hC := medianI H (a - 1) a (a + 1) sw bk (by omega) (by omega) (by omega) hsw s w hR hok
  rw [show ((a - 1 : Nat) : Int) = (a : Int) - 1 by omega, show ((a + 1 : Nat) : Int) = (a : Int) + 1 by omega] at hC
  unfold medAdj
  generalize med M (a - 1) a (a + 1) sw s = r at *
  have HC := Lib.hid hC
  clear hC hok hR H
  go_enter Try.func128, Try.ntmps128
  go_wp2_with fail
  refine HC.out.mono ?_
  rintro e w1 ⟨rfl, hR1⟩
  have HR1 := Lib.hid hR1; clear hR1
  go_wp2_with fail
  go_ret
  exact ⟨rfl, HR1.out⟩

set_option maxRecDepth 100000 in
set_option maxHeartbeats 4000000 in
theorem choosePivotI (H : IfaceQ M ok RX T rv gl gs n) (a b : Nat) (hab : a + 12 < b) (hb : b ≤ n) (s : σ) (w : World) (hR : RX none s w) (hok : ok (chooseP M a b s).2.2) :
    Calls Try.prog 84 #[.iface T rv, .int .i64 a, .int .i64 b] w fun e w' => e = .returned (.tuple #[.int .i64 ((chooseP M a b s).1 : Nat), .int .i64 ((chooseP M a b s).2.1 : Nat)]) ∧ RX none (chooseP M a b s).2.2 w' := by
  have hn := (H.face none).hn
  have hg := (H.face none).guard
  have HB := Lib.hid H.box
  have HRz := Lib.hid (H.box.opn s w (.int .i64 0) 3 hR)
  obtain ⟨q, hq⟩ : ∃ q, q = (b - a) / 4 := ⟨_, rfl⟩
  have hq1 : 3 ≤ q ∧ q * 4 ≤ b - a ∧ b - a < q * 4 + 4 := by omega
  have hqz : ((b : Int) - (a : Int)) / 4 = (q : Int) := by omega
  have h8z : (b : Int) - (a : Int) ≥ 8 := by omega
  by_cases h50 : 50 ≤ b - a
  · have h50z : (b : Int) - (a : Int) ≥ 50 := by omega
    have hF : chooseP M a b s = ((med M (medAdj M (a + q * 1) 0 s).1 (medAdj M (a + q * 2) (medAdj M (a + q * 1) 0 s).2.1 (medAdj M (a + q * 1) 0 s).2.2).1 (medAdj M (a + q * 3) (medAdj M (a + q * 2) (medAdj M (a + q * 1) 0 s).2.1 (medAdj M (a + q * 1) 0 s).2.2).2.1 (medAdj M (a + q * 2) (medAdj M (a + q * 1) 0 s).2.1 (medAdj M (a + q * 1) 0 s).2.2).2.2).1 (medAdj M (a + q * 3) (medAdj M (a + q * 2) (medAdj M (a + q * 1) 0 s).2.1 (medAdj M (a + q * 1) 0 s).2.2).2.1 (medAdj M (a + q * 2) (medAdj M (a + q * 1) 0 s).2.1 (medAdj M (a + q * 1) 0 s).2.2).2.2).2.1 (medAdj M (a + q * 3) (medAdj M (a + q * 2) (medAdj M (a + q * 1) 0 s).2.1 (medAdj M (a + q * 1) 0 s).2.2).2.1 (medAdj M (a + q * 2) (medAdj M (a + q * 1) 0 s).2.1 (medAdj M (a + q * 1) 0 s).2.2).2.2).2.2).1, hintOf (med M (medAdj M (a + q * 1) 0 s).1 (medAdj M (a + q * 2) (medAdj M (a + q * 1) 0 s).2.1 (medAdj M (a + q * 1) 0 s).2.2).1 (medAdj M (a + q * 3) (medAdj M (a + q * 2) (medAdj M (a + q * 1) 0 s).2.1 (medAdj M (a + q * 1) 0 s).2.2).2.1 (medAdj M (a + q * 2) (medAdj M (a + q * 1) 0 s).2.1 (medAdj M (a + q * 1) 0 s).2.2).2.2).1 (medAdj M (a + q * 3) (medAdj M (a + q * 2) (medAdj M (a + q * 1) 0 s).2.1 (medAdj M (a + q * 1) 0 s).2.2).2.1 (medAdj M (a + q * 2) (medAdj M (a + q * 1) 0 s).2.1 (medAdj M (a + q * 1) 0 s).2.2).2.2).2.1 (medAdj M (a + q * 3) (medAdj M (a + q * 2) (medAdj M (a + q * 1) 0 s).2.1 (medAdj M (a + q * 1) 0 s).2.2).2.1 (medAdj M (a + q * 2) (medAdj M (a + q * 1) 0 s).2.1 (medAdj M (a + q * 1) 0 s).2.2).2.2).2.2).2.1, (med M (medAdj M (a + q * 1) 0 s).1 (medAdj M (a + q * 2) (medAdj M (a + q * 1) 0 s).2.1 (medAdj M (a + q * 1) 0 s).2.2).1 (medAdj M (a + q * 3) (medAdj M (a + q * 2) (medAdj M (a + q * 1) 0 s).2.1 (medAdj M (a + q * 1) 0 s).2.2).2.1 (medAdj M (a + q * 2) (medAdj M (a + q * 1) 0 s).2.1 (medAdj M (a + q * 1) 0 s).2.2).2.2).1 (medAdj M (a + q * 3) (medAdj M (a + q * 2) (medAdj M (a + q * 1) 0 s).2.1 (medAdj M (a + q * 1) 0 s).2.2).2.1 (medAdj M (a + q * 2) (medAdj M (a + q * 1) 0 s).2.1 (medAdj M (a + q * 1) 0 s).2.2).2.2).2.1 (medAdj M (a + q * 3) (medAdj M (a + q * 2) (medAdj M (a + q * 1) 0 s).2.1 (medAdj M (a + q * 1) 0 s).2.2).2.1 (medAdj M (a + q * 2) (medAdj M (a + q * 1) 0 s).2.1 (medAdj M (a + q * 1) 0 s).2.2).2.2).2.2).2.2) := by
      unfold chooseP
      dsimp only
      rw [if_pos (show 8 ≤ b - a by omega), if_pos h50, ← hq]
    have w1 := way_med (M := M) (n := n) (a + q * 1 - 1) (a + q * 1) (a + q * 1 + 1) 0 s (by omega) (by omega) (by omega)
    have h1 := fun w' hr => medianAdjacentI H (a + q * 1) 0 w.heap.size (by omega) (by omega) (by omega) s w' hr
    change Way M n 3 s (medAdj M (a + q * 1) 0 s).2.2 ∧ ((medAdj M (a + q * 1) 0 s).1 = _ ∨ (medAdj M (a + q * 1) 0 s).1 = _ ∨ (medAdj M (a + q * 1) 0 s).1 = _) ∧ (medAdj M (a + q * 1) 0 s).2.1 ≤ _ at w1
    generalize medAdj M (a + q * 1) 0 s = r1 at *
    have w2 := way_med (M := M) (n := n) (a + q * 2 - 1) (a + q * 2) (a + q * 2 + 1) r1.2.1 r1.2.2 (by omega) (by omega) (by omega)
    have h2 := fun w' hr => medianAdjacentI H (a + q * 2) r1.2.1 w.heap.size (by omega) (by omega) (by omega) r1.2.2 w' hr
    change Way M n 3 r1.2.2 (medAdj M (a + q * 2) r1.2.1 r1.2.2).2.2 ∧ ((medAdj M (a + q * 2) r1.2.1 r1.2.2).1 = _ ∨ (medAdj M (a + q * 2) r1.2.1 r1.2.2).1 = _ ∨ (medAdj M (a + q * 2) r1.2.1 r1.2.2).1 = _) ∧ (medAdj M (a + q * 2) r1.2.1 r1.2.2).2.1 ≤ _ at w2
    generalize medAdj M (a + q * 2) r1.2.1 r1.2.2 = r2 at *
    have w3 := way_med (M := M) (n := n) (a + q * 3 - 1) (a + q * 3) (a + q * 3 + 1) r2.2.1 r2.2.2 (by omega) (by omega) (by omega)
    have h3 := fun w' hr => medianAdjacentI H (a + q * 3) r2.2.1 w.heap.size (by omega) (by omega) (by omega) r2.2.2 w' hr
    change Way M n 3 r2.2.2 (medAdj M (a + q * 3) r2.2.1 r2.2.2).2.2 ∧ ((medAdj M (a + q * 3) r2.2.1 r2.2.2).1 = _ ∨ (medAdj M (a + q * 3) r2.2.1 r2.2.2).1 = _ ∨ (medAdj M (a + q * 3) r2.2.1 r2.2.2).1 = _) ∧ (medAdj M (a + q * 3) r2.2.1 r2.2.2).2.1 ≤ _ at w3
    generalize medAdj M (a + q * 3) r2.2.1 r2.2.2 = r3 at *
    have w4 := way_med (M := M) (n := n) r1.1 r2.1 r3.1 r3.2.1 r3.2.2 (by omega) (by omega) (by omega)
    have h4 := fun w' hr => medianI H r1.1 r2.1 r3.1 r3.2.1 w.heap.size (by omega) (by omega) (by omega) (by omega) r3.2.2 w' hr
    generalize med M r1.1 r2.1 r3.1 r3.2.1 r3.2.2 = r4 at *
    rw [hF] at hok
    have ok3 := w4.1.ok hg hok
    have ok2 := w3.1.ok hg ok3
    have ok1 := w2.1.ok hg ok2
    have e1 : ((a + q * 1 : Nat) : Int) = (a : Int) + (q : Int) := by omega
    have e2 : ((a + q * 2 : Nat) : Int) = (a : Int) + (q : Int) * 2 := by omega
    have e3 : ((a + q * 3 : Nat) : Int) = (a : Int) + (q : Int) * 3 := by omega
    rw [e1] at h1
    rw [e2] at h2
    rw [e3] at h3
    have H1 := Lib.hid (fun w' hr => h1 w' hr ok1)
    have H2 := Lib.hid (fun w' hr => h2 w' hr ok2)
    have H3 := Lib.hid (fun w' hr => h3 w' hr ok3)
    have H4 := Lib.hid (fun w' hr => h4 w' hr hok)
    have HF := Lib.hid hF
    have hr4 : r4.2.1 ≤ 12 := by omega
    have hr123 : r1.1 < n ∧ r2.1 < n ∧ r3.1 < n := by omega
    clear h1 h2 h3 h4 w1 w2 w3 w4 ok1 ok2 ok3 hok hR hg H hF e1 e2 e3 hq
    obtain ⟨x1, sw1, t1⟩ := r1
    obtain ⟨x2, sw2, t2⟩ := r2
    obtain ⟨x3, sw3, t3⟩ := r3
    obtain ⟨x4, sw4, t4⟩ := r4
    dsimp only at H1 H2 H3 H4 HF hr4 hr123
    go_enter Try.func84, Try.ntmps84
    go_wp2_with fail
    refine (H1.out _ HRz.out).mono ?_
    rintro e w1 ⟨rfl, hR1⟩
    have HR1 := Lib.hid hR1; clear hR1 HRz
    go_wp2_with fail
    refine (H2.out _ HR1.out).mono ?_
    rintro e w2 ⟨rfl, hR2⟩
    have HR2 := Lib.hid hR2; clear hR2
    go_wp2_with fail
    refine (H3.out _ HR2.out).mono ?_
    rintro e w3 ⟨rfl, hR3⟩
    have HR3 := Lib.hid hR3; clear hR3
    go_wp2_with fail
    refine (H4.out _ HR3.out).mono ?_
    rintro e w4 ⟨rfl, hR4⟩
    have HRz := Lib.hid hR4; clear hR4
    obtain ⟨z0, z1⟩ := HB.out.cel _ _ _ _ HRz.out
    by_cases hs0 : sw4 = 0
    · have hz : (((sw4 : Nat) : Int) == 0) = true := by simp; omega
      go_wp2_with fail
      go_ret2
      exact ⟨by rw [HF.out]; show _ = Ending.returned (.tuple #[.int .i64 ((x4 : Nat) : Int), .int .i64 ((hintOf sw4 : Nat) : Int)]); rw [hintOf, if_pos hs0]; rfl, by rw [HF.out]; exact HB.out.cls _ _ _ _ HRz.out⟩
    · have hz : (((sw4 : Nat) : Int) == 0) = false := by simp; omega
      by_cases hs12 : sw4 = 12
      · have hz2 : (((sw4 : Nat) : Int) == 12) = true := by simp; omega
        go_wp2_with fail
        go_ret2
        exact ⟨by rw [HF.out]; show _ = Ending.returned (.tuple #[.int .i64 ((x4 : Nat) : Int), .int .i64 ((hintOf sw4 : Nat) : Int)]); rw [hintOf, if_neg hs0, if_pos hs12]; rfl, by rw [HF.out]; exact HB.out.cls _ _ _ _ HRz.out⟩
      · have hz2 : (((sw4 : Nat) : Int) == 12) = false := by simp; omega
        go_wp2_with fail
        go_ret2
        exact ⟨by rw [HF.out]; show _ = Ending.returned (.tuple #[.int .i64 ((x4 : Nat) : Int), .int .i64 ((hintOf sw4 : Nat) : Int)]); rw [hintOf, if_neg hs0, if_neg hs12]; rfl, by rw [HF.out]; exact HB.out.cls _ _ _ _ HRz.out⟩
  · have h50z : ¬ ((b : Int) - (a : Int) ≥ 50) := by omega
    have hF : chooseP M a b s = ((med M (a + q * 1) (a + q * 2) (a + q * 3) 0 s).1, hintOf (med M (a + q * 1) (a + q * 2) (a + q * 3) 0 s).2.1, (med M (a + q * 1) (a + q * 2) (a + q * 3) 0 s).2.2) := by
      unfold chooseP
      dsimp only
      rw [if_pos (show 8 ≤ b - a by omega), if_neg h50, ← hq]
    have w4 := way_med (M := M) (n := n) (a + q * 1) (a + q * 2) (a + q * 3) 0 s (by omega) (by omega) (by omega)
    have h4 := fun w' hr => medianI H (a + q * 1) (a + q * 2) (a + q * 3) 0 w.heap.size (by omega) (by omega) (by omega) (by omega) s w' hr
    generalize med M (a + q * 1) (a + q * 2) (a + q * 3) 0 s = r4 at *
    rw [hF] at hok
    have e1 : ((a + q * 1 : Nat) : Int) = (a : Int) + (q : Int) := by omega
    have e2 : ((a + q * 2 : Nat) : Int) = (a : Int) + (q : Int) * 2 := by omega
    have e3 : ((a + q * 3 : Nat) : Int) = (a : Int) + (q : Int) * 3 := by omega
    rw [e1, e2, e3] at h4
    have H4 := Lib.hid (fun w' hr => h4 w' hr hok)
    have HF := Lib.hid hF
    have hr4 : r4.2.1 ≤ 12 := by omega
    clear h4 w4 hok hR hg H hF e1 e2 e3 hq
    obtain ⟨x4, sw4, t4⟩ := r4
    dsimp only at H4 HF hr4
    go_enter Try.func84, Try.ntmps84
    go_wp2_with fail
    refine (H4.out _ HRz.out).mono ?_
    rintro e w4 ⟨rfl, hR4⟩
    clear HRz
    have HRz := Lib.hid hR4; clear hR4
    obtain ⟨z0, z1⟩ := HB.out.cel _ _ _ _ HRz.out
    by_cases hs0 : sw4 = 0
    · have hz : (((sw4 : Nat) : Int) == 0) = true := by simp; omega
      go_wp2_with fail
      go_ret2
      exact ⟨by rw [HF.out]; show _ = Ending.returned (.tuple #[.int .i64 ((x4 : Nat) : Int), .int .i64 ((hintOf sw4 : Nat) : Int)]); rw [hintOf, if_pos hs0]; rfl, by rw [HF.out]; exact HB.out.cls _ _ _ _ HRz.out⟩
    · have hz : (((sw4 : Nat) : Int) == 0) = false := by simp; omega
      by_cases hs12 : sw4 = 12
      · have hz2 : (((sw4 : Nat) : Int) == 12) = true := by simp; omega
        go_wp2_with fail
        go_ret2
        exact ⟨by rw [HF.out]; show _ = Ending.returned (.tuple #[.int .i64 ((x4 : Nat) : Int), .int .i64 ((hintOf sw4 : Nat) : Int)]); rw [hintOf, if_neg hs0, if_pos hs12]; rfl, by rw [HF.out]; exact HB.out.cls _ _ _ _ HRz.out⟩
      · have hz2 : (((sw4 : Nat) : Int) == 12) = false := by simp; omega
        go_wp2_with fail
        go_ret2
        exact ⟨by rw [HF.out]; show _ = Ending.returned (.tuple #[.int .i64 ((x4 : Nat) : Int), .int .i64 ((hintOf sw4 : Nat) : Int)]); rw [hintOf, if_neg hs0, if_neg hs12]; rfl, by rw [HF.out]; exact HB.out.cls _ _ _ _ HRz.out⟩
end

set_option maxRecDepth 100000 in
set_option maxHeartbeats 2000000 in
theorem sortNext (rb X : Nat) (hX : X < 18446744073709551616) (w : World) (hc : w.cell? ⟨rb, 0, none⟩ = some (.int .u64 X)) (hf : w.frozen? ⟨rb, 0, none⟩ = false) :
    Calls Try.prog 127 #[.pointer (some ⟨rb, 0, none⟩)] w fun e w' => e = .returned (.int .u64 (Sort.xorNextN X : Nat)) ∧ w' = (w.setCell ⟨rb, 0, none⟩ (.int .u64 (Sort.xorNextN X : Nat))).drewN 3 := by
  obtain ⟨A, hA⟩ : ∃ A : Nat, A = X ^^^ (X * 8192 % 18446744073709551616) := ⟨_, rfl⟩
  obtain ⟨B, hB⟩ : ∃ B : Nat, B = A ^^^ (A / 128) := ⟨_, rfl⟩
  obtain ⟨C, hC⟩ : ∃ C : Nat, C = B ^^^ (B * 131072 % 18446744073709551616) := ⟨_, rfl⟩
  have lA : A < 18446744073709551616 := by rw [hA]; exact Nat.xor_lt_two_pow (n := 64) (by omega) (by omega)
  have lB : B < 18446744073709551616 := by rw [hB]; exact Nat.xor_lt_two_pow (n := 64) (by omega) (by omega)
  have e1 : bits .xor .u64 (X : Int) (IntKind.u64.wrap ((X : Int) * 8192)) = (A : Int) := by
    rw [IntKind.wrap_u64, show ((X : Int) * 8192 % 18446744073709551616) = ((X * 8192 % 18446744073709551616 : Nat) : Int) by omega, bits_xor_u64_nat _ _ hX (by omega), hA]
  have e2 : bits .xor .u64 (A : Int) ((A : Int) / 128) = (B : Int) := by
    rw [show ((A : Int) / 128) = ((A / 128 : Nat) : Int) by omega, bits_xor_u64_nat _ _ lA (by omega), hB]
  have e3 : bits .xor .u64 (B : Int) (IntKind.u64.wrap ((B : Int) * 131072)) = (C : Int) := by
    rw [IntKind.wrap_u64, show ((B : Int) * 131072 % 18446744073709551616) = ((B * 131072 % 18446744073709551616 : Nat) : Int) by omega, bits_xor_u64_nat _ _ lB (by omega), hC]
  have hv : Sort.xorNextN X = C := by unfold Sort.xorNextN; simp only []; rw [← hA, ← hB, ← hC]
  rw [hv]
  clear hA hB hC hv
  have hss : ∀ v v', (w.setCell ⟨rb, 0, none⟩ v).setCell ⟨rb, 0, none⟩ v' = w.setCell ⟨rb, 0, none⟩ v' := setCell_setCell w rb 0
  go_enter Try.func127, Try.ntmps127
  go_wp2
  go_region
  all_goals go_wp2
  all_goals go_region
  all_goals go_wp2
  all_goals go_region
  all_goals go_wp2
  go_ret
  exact ⟨rfl, rfl⟩

theorem bitsLenI (n : Nat) (hn : n < 4611686018427387904) (w : World) : Calls Try.prog 58 #[.int .u64 (n : Int)] w fun e w' => e = .returned (.int .i64 (Sort.bitsLen n : Nat)) ∧ w' = w := by
  have h := Try.bits_Len (n : Int) w (by omega) (by omega)
  rwa [Int.toNat_natCast, bitLen_eq _ (by omega)] at h

set_option maxHeartbeats 1000000 in
theorem sortNextPow (n : Nat) (hn : n < 4611686018427387904) (w : World) :
    Calls Try.prog 126 #[.int .i64 n] w fun e w' => e = .returned (.int .u64 ((1 <<< Sort.bitsLen n : Nat) : Int)) ∧ w' = w := by
  have HLen := Lib.hid (fun w => bitsLenI n hn w)
  have hk : Sort.bitsLen n ≤ 62 := (Sort.bitsLen_le_iff n 62).2 (by omega)
  have hp := wrap_two_pow (Sort.bitsLen n) hk
  have wr : IntKind.u64.wrap (n : Int) = n := by simp [IntKind.wrap, IntKind.bits, IntKind.signed]; omega
  go_enter Try.func126, Try.ntmps126
  go_wp2_with fail
  refine (HLen.out _).mono ?_
  rintro e w' ⟨rfl, rfl⟩
  go_wp2_with fail
  go_ret
  exact ⟨rfl, rfl⟩

section
variable {σ : Type} {M : Mach σ} {ok : σ → Prop} {RX : Option (Nat × Value) → σ → World → Prop} {T : TypeId} {rv : Value} {gl gs n : Nat}
set_option maxRecDepth 100000 in
set_option maxHeartbeats 4000000 in
theorem breakPatternsI (H : IfaceQ M ok RX T rv gl gs n) (a b : Nat) (hab : a + 12 < b) (hb : b ≤ n) (s : σ) (w : World) (hR : RX none s w) (hok : ok (breakP M othR a b s)) :
    Calls Try.prog 83 #[.iface T rv, .int .i64 a, .int .i64 b] w (Leaves (RX none) (breakP M othR a b s)) := by
  have hn := (H.face none).hn
  have mS := (H.face none).mS
  have eS := (H.face none).eS
  have HG := Lib.hid (H.face none).guard
  have HB := Lib.hid H.box
  have HS := Lib.hid (fun x => (H.face x).swap)
  obtain ⟨L, hL⟩ : ∃ L, L = b - a := ⟨_, rfl⟩
  obtain ⟨x, hx⟩ : ∃ x, x = a + L / 4 * 2 - 1 := ⟨_, rfl⟩
  have hbr : breakP M othR a b s = brkR M othR a L x 3 0 s := by
    unfold breakP
    rw [if_pos (show 8 ≤ b - a by omega), ← hL, ← hx]; rfl
  rw [hbr] at hok ⊢
  obtain ⟨P, hP⟩ : ∃ P : Nat, P = 1 <<< Sort.bitsLen L := ⟨_, rfl⟩
  have hP1 : 1 ≤ P := by rw [hP, Nat.one_shiftLeft]; exact Nat.two_pow_pos _
  have hP2 : P ≤ 2 * L := by rw [hP, Nat.one_shiftLeft]; exact Sort.two_pow_bitsLen_le (by omega)
  have hNP : ∀ w, Calls Try.prog 126 #[.int .i64 (L : Int)] w fun e w' => e = .returned (.int .u64 (P : Int)) ∧ w' = w := by rw [hP]; exact fun w => sortNextPow L (by omega) w
  rw [show (L : Int) = (b : Int) - (a : Int) by omega] at hNP
  have HNP := Lib.hid hNP
  have HO : ∀ k, othR L k = if L ≤ (rnd L (k + 1)) &&& (P - 1) then ((rnd L (k + 1)) &&& (P - 1)) - L else (rnd L (k + 1)) &&& (P - 1) := fun k => by rw [hP]; rfl
  have HO := Lib.hid HO
  have H0 := Lib.hid (And.intro hR hok)
  have HLz : Hid ((b : Int) - (a : Int) = (L : Int)) := Lib.hid (by omega)
  have hLb : 12 < L ∧ a + L ≤ n := by omega
  have hxb : a + L / 4 * 2 = x + 1 := by omega
  have hxz : (a : Int) + ((b : Int) - (a : Int)) / 4 * 2 = (x : Int) + 1 := by omega
  have hlz : IntKind.u64.wrap ((b : Int) - (a : Int)) = (L : Int) := by rw [IntKind.wrap_u64]; omega
  have h8z : (b : Int) - (a : Int) ≥ 8 := by omega
  have hxn : x + 3 ≤ n ∧ x ≤ n := by omega
  have HOP := Lib.hid (H.box.opn s w (.int .u64 (L : Nat)) 133 hR)
  have HXb := Lib.hid hxb
  clear H hR hok hbr hP hNP hx hL hxb
  go_enter Try.func83, Try.ntmps83
  go_wp2_with fail
  refine (HNP.out _).mono ?_
  rintro e w1 ⟨rfl, rfl⟩
  go_wp2_with fail
  go_loopg [9] 3 (fun g vi wr => ∃ (k : Nat) (t : σ), k + g = 3 ∧ vi = .int .i64 ((x + k : Nat) : Int) ∧ Hid (RX (some (w.heap.size, .int .u64 (rnd L k : Nat))) t wr ∧ brkR M othR a L x g k t = brkR M othR a L x 3 0 s))
  case atStart => exact ⟨0, s, rfl, by go_num, HOP.out, rfl⟩
  case round =>
    clear HOP HNP
    obtain ⟨k, t, hk, rfl, HI⟩ := hrel
    cases gk with
    | zero =>
      have hkz : ¬ (((x + k : Nat) : Int) ≤ (x : Int) + 1 + 1) := by omega
      have HF : Hid (brkR M othR a L x 3 0 s = t) := Lib.hid HI.out.2.symm
      go_wp2_with fail
      go_end0
      exact ⟨rfl, by rw [HF.out]; exact HB.out.cls _ _ _ _ HI.out.1⟩
    | succ gq =>
      have hkz : ((x + k : Nat) : Int) ≤ (x : Int) + 1 + 1 := by omega
      have HF : Hid (brkR M othR a L x gq (k + 1) (M.swap t (x + k) (a + othR L k)) = brkR M othR a L x 3 0 s) := Lib.hid HI.out.2
      obtain ⟨z0, z1⟩ := HB.out.cel _ _ _ _ HI.out.1
      have hNx := sortNext w.heap.size (rnd L k) (rnd_lt L (by omega) k) wr z0 z1
      have lR' := rnd_lt L (by omega) (k + 1)
      change Calls Try.prog _ _ _ (fun e w' => e = .returned (.int .u64 (rnd L (k + 1) : Nat)) ∧ w' = (wr.setCell ⟨w.heap.size, 0, none⟩ (.int .u64 (rnd L (k + 1) : Nat))).drewN 3) at hNx
      have HR1 := Lib.hid (HB.out.drw _ _ _ 3 (HB.out.sto _ _ _ _ (.int .u64 (rnd L (k + 1) : Nat)) HI.out.1))
      have hot := HO.out k
      have hol : othR L k < L := othR_ok L k (by omega)
      obtain ⟨O, hO⟩ : ∃ O : Nat, O = rnd L (k + 1) &&& (P - 1) := ⟨_, rfl⟩
      have lO : O ≤ P - 1 := by rw [hO]; exact Nat.and_le_right
      rw [← hO] at hot
      have eAnd : bits .and .u64 ((rnd L (k + 1) : Nat) : Int) ((P : Int) - 1) = (O : Int) := by
        rw [show ((P : Int) - 1) = ((P - 1 : Nat) : Int) by omega, bits_and_u64_nat _ _ lR' (by omega), hO]
      generalize hRR : rnd L (k + 1) = R' at *
      have HRR := Lib.hid hRR; clear hRR
      have HNx := Lib.hid hNx
      have HRo := HR1
      clear hNx hO z0 z1 HR1
      have hC := fun w' hr => HS.out (some (w.heap.size, .int .u64 (R' : Nat))) t w' (x + k) (a + othR L k) (by omega) (by omega) hr ((way_brkR (n := n) othR_ok a L x (by omega) (by omega) gq (k + 1) _ (by omega)).ok HG.out (by rw [HF.out]; exact H0.out.2))
      by_cases hge : L ≤ O
      · rw [if_pos hge] at hot
        have hgz : (O : Int) ≥ (b : Int) - (a : Int) := by rw [HLz.out]; omega
        rw [show ((a + othR L k : Nat) : Int) = (a : Int) + ((O : Int) - ((b : Int) - (a : Int))) by rw [HLz.out]; omega] at hC
        have HC := Lib.hid hC; have HOt := Lib.hid hot
        clear hC hot
        go_wp2_with fail
        refine HNx.out.mono ?_
        rintro e w1 ⟨rfl, rfl⟩
        go_wp2_with fail
        refine (HC.out _ HRo.out).mono ?_
        rintro e w2 ⟨rfl, hR2⟩
        have HR2 := Lib.hid hR2; clear hR2
        go_wp2_with fail
        go_roundg gq
        case measure => omega
        case rel => exact ⟨k + 1, _, by omega, by go_num, by rw [HRR.out]; exact HR2.out, HF.out⟩
      · rw [if_neg hge] at hot
        have hgz : ¬ ((O : Int) ≥ (b : Int) - (a : Int)) := by rw [HLz.out]; omega
        rw [show ((a + othR L k : Nat) : Int) = (a : Int) + (O : Int) by omega] at hC
        have HC := Lib.hid hC; have HOt := Lib.hid hot
        clear hC hot
        go_wp2_with fail
        refine HNx.out.mono ?_
        rintro e w1 ⟨rfl, rfl⟩
        go_wp2_with fail
        refine (HC.out _ HRo.out).mono ?_
        rintro e w2 ⟨rfl, hR2⟩
        have HR2 := Lib.hid hR2; clear hR2
        go_wp2_with fail
        go_roundg gq
        case measure => omega
        case rel => exact ⟨k + 1, _, by omega, by go_num, by rw [HRR.out]; exact HR2.out, HF.out⟩
end
end Go.Proofs.Ytjammaglboehcaa
