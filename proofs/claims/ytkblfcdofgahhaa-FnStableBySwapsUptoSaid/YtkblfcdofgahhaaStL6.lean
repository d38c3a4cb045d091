/-
  The walk of the law FnStableCalls.
-/
import Derived.Test.YtkblfcdofgahhaaStW2
import Derived.Test.YtkblfcdofgahhaaStW3
namespace Go.Proofs.Ytkblfcdofgahhaa
open Go.RowKit Go.Proofs
set_option linter.unusedVariables false

theorem logOk_keeps (T : Nat → Nat → Bool) (n : Nat) : Keeps (logM T) n (fun s => LogOk n s.2) :=
  ⟨fun s i j hi hj h => LogOk.add h ⟨.inl rfl, hi, hj⟩, fun s i j hi hj h => LogOk.add h ⟨.inr rfl, hi, hj⟩⟩
theorem logOk_stable (T : Nat → Nat → Bool) (n : Nat) : LogOk n (stable (logM T) n log0).2 :=
  keep_stable (logOk_keeps T n) log0 ⟨[], rfl, fun c hc => by cases hc⟩

set_option maxHeartbeats 2000000 in
theorem fnStableCallsw (w : World) (A' : Option Addr) (n c' : Nat) (f : Nat → Int) (hf64 : ∀ i, I64 (f i)) (hl : n ≤ c') (hre : c' * 8 ≤ 140737488351232) (hrd' : Rd w w.heap.size (Value.int .i64) A' n f)
    (sz : Int) (A : Option Addr) (m c : Nat) (g : Nat → Bool) (hsz : I64 sz) (hlm : m ≤ c) (hrm : c ≤ 140737488351232) (hrd : Rd w w.heap.size Value.bool A m g) (hbk : c' ≤ 1048575) (hbm : c ≤ 1048575) :
    Calls Try.prog 8 #[.slice A' n c', .agg #[.int .i64 sz, .slice A m c]] w fun e w' => e = .returned (.bool true) ∧ Below w.heap.size w w' := by
  have hm : m ≤ 140737488351232 := by omega
  have hn : n ≤ 1048576 := by omega
  have HT := Lib.hid (fun w' (hb : Below w.heap.size w w') => toOrder sz A m c w.heap.size g w' hm hb.size (hrd.keep hb (Nat.le_refl _)))
  have HI := Lib.hid (fun w' A1 c1 (hb : Below w.heap.size w w') (hr : Rd w' w'.heap.size Value.bool A1 m g) => implStableCalls sz A1 m c1 w'.heap.size g A' n c' w.heap.size f (fun i j => relB sz m g (f i) (f j)) w' hsz hm (Nat.le_refl _) hr hf64 hn hb.size (hrd'.keep hb (Nat.le_refl _)) (fun _ _ _ _ => rfl))
  have H0 := Lib.hid (BoxInv.first w sz A m c 33)
  have hok := logOk_stable (fun i j => relB sz m g (f i) (f j)) n
  have hlen : (stable (logM fun i j => relB sz m g (f i) (f j)) n log0).2.length ≤ 5864062014805 := okL_stable _ n hn
  have HOk := Lib.hid hok; have HLen := Lib.hid hlen
  clear hrd hrd' hf64 hre hl hlm hrm hsz hok hlen hbk hbm
  generalize (stable (logM fun i j => relB sz m g (f i) (f j)) n log0).2 = l at *
  go_enter Try.func8, Try.ntmps8
  go_wp2_with fail
  refine (HT.out _ H0.out.bel).mono ?_
  rintro e w3 ⟨A1, c1, rfl, hr1, hb3⟩
  have H3 := Lib.hid (H0.out.step hb3)
  have HR3 := Lib.hid hr1
  clear hb3 hr1
  go_wp2_with fail
  refine (HI.out _ A1 c1 H3.out.bel HR3.out).mono ?_
  rintro e w4 ⟨v4, rfl, ho4, hb4⟩
  have H4 := Lib.hid (H3.out.step hb4)
  obtain ⟨A4, c4, rfl, hr4⟩ := rdC_of_own ho4
  have HR4 := Lib.hid hr4
  clear hb4 ho4 hr4 HI HT H3 HR3 H0
  have hlp := HOk.out.pos
  have hll := HLen.out
  generalize hL : l.length = L at *
  have HL := Lib.hid hL; clear hL
  go_wp2_with fail
  go_loopw [5, 13] (fun v vi wr => ∃ k : Nat, k ≤ L ∧ vi = .int .i64 k ∧ v = .int .i64 (if k = 0 then 0 else 1) ∧ Hid (Below w4.heap.size w4 wr)) (fun _ vi _ => L - (intOf vi).toNat)
  case atStart => exact ⟨0, Nat.zero_le _, rfl, rfl, Below.refl _ _⟩
  case round =>
    obtain ⟨k, hk, rfl, rfl, HB⟩ := hrel
    by_cases hlt : k < L
    · obtain ⟨b, off, rfl, hbl, z0, z1, z2⟩ := (HR4.out.keep HB.out (Nat.le_refl _)).at hlt
      have HBn := Lib.hid (fun o => HB.out.alloc HB.out.size o)
      cases k with
      | zero =>
        rw [HOk.out.first] at z0 z1 z2
        simp only [Nat.zero_mul, Nat.add_zero] at z0 z1 z2
        rw [if_pos rfl]
        go_wp2_with fail
        go_roundw
        case rel => exact ⟨1, hlt, by go_num, by first | rfl | go_num, by first | exact (HBn.out _) | exact (HBn.out _).setCell (p := ⟨_, 0, none⟩) HB.out.size _⟩
        case measure => simp [intOf]; omega
      | succ k =>
        obtain ⟨hc1, hc2, hc3⟩ := HOk.out.later (k := k) (by rw [HL.out]; exact hlt)
        generalize lgAt l (k + 1) = t at *
        obtain ⟨t1, t2, t3⟩ := t
        dsimp only at hc1 hc2 hc3 z0 z1 z2
        have g2 : (t2 : Int) < (n : Int) := by omega
        have g3 : (t3 : Int) < (n : Int) := by omega
        have g4 : (0 : Int) ≤ (t2 : Int) := by omega
        have g5 : (0 : Int) ≤ (t3 : Int) := by omega
        rw [if_neg (Nat.succ_ne_zero k)]
        rcases hc1 with rfl | rfl
        · go_wp2_with fail
          go_roundw
          case rel => exact ⟨k + 2, hlt, by go_num, by first | rfl | go_num, by first | exact (HBn.out _) | exact (HBn.out _).setCell (p := ⟨_, 0, none⟩) HB.out.size _⟩
          case measure => simp [intOf]; omega
        · go_wp2_with fail
          go_roundw
          case rel => exact ⟨k + 2, hlt, by go_num, by first | rfl | go_num, by first | exact (HBn.out _) | exact (HBn.out _).setCell (p := ⟨_, 0, none⟩) HB.out.size _⟩
          case measure => simp [intOf]; omega
    · obtain rfl : k = L := by omega
      have hk0 : k ≠ 0 := by omega
      rw [if_neg hk0]
      go_wp2_with fail
      go_ret
      exact ⟨rfl, H4.out.bel.trans (HB.out.mono H4.out.bel.size)⟩
end Go.Proofs.Ytkblfcdofgahhaa
