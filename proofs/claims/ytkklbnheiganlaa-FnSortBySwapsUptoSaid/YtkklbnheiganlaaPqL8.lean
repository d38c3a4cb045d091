/-
  The walks of the laws FnSortCalls and FnSortBySwaps.
-/
import Derived.Test.YtkklbnheiganlaaPqVw
import Derived.Test.YtkklbnheiganlaaStW3
import Derived.Test.YtkklbnheiganlaaStRp
import Derived.Test.YtkklbnheiganlaaPqOv
import Derived.Test.YtkklbnheiganlaaSame
namespace Go.Proofs.Ytkklbnheiganlaa
open Go.RowKit Go.Proofs
set_option linter.unusedVariables false

theorem logOk_keepsW (T : Nat → Nat → Bool) (n : Nat) : Keeps (logM T) n (fun s => LogOk n s.2) :=
  ⟨fun s i j hi hj h => LogOk.add h ⟨.inl rfl, hi, hj⟩, fun s i j hi hj h => LogOk.add h ⟨.inr rfl, hi, hj⟩⟩
theorem logOk_pdq (T : Nat → Nat → Bool) (n : Nat) : LogOk n (pdqS (logM T) othR n log0).2 :=
  (way_pdqS (n := n) othR_ok _).keep (logOk_keepsW T n) ⟨[], rfl, fun c hc => by cases hc⟩
theorem replay_keepsW (T : Nat → Nat → Bool) (n : Nat) : Keeps (logM T) n (fun s => s.1 = replay (fun k => k) s.2) :=
  ⟨fun s i j hi hj h => by
    show s.1 = replay (fun k => k) (s.2 ++ [(2, i, j)])
    rw [replay_add, if_neg (show ¬ (2 = 3) by decide)]; exact h, fun s i j hi hj h => by
    show swapF s.1 i j = replay (fun k => k) (s.2 ++ [(3, i, j)])
    rw [replay_add, if_pos rfl, ← h]⟩
theorem replay_pdq (T : Nat → Nat → Bool) (n : Nat) : (pdqS (logM T) othR n log0).1 = replay (fun k => k) (pdqS (logM T) othR n log0).2 := (way_pdqS (n := n) othR_ok _).keep (replay_keepsW T n) rfl
theorem logOk_swapsW {n : Nat} {l : Log} (h : LogOk n l) : ∀ k, k < l.length → (lgAt l k).1 = 3 → (lgAt l k).2.1 < n ∧ (lgAt l k).2.2 < n := fun k hk h3 => by
  cases k with
  | zero => rw [h.first] at h3; exact absurd h3 (by decide)
  | succ k => exact (h.later hk).2

set_option maxHeartbeats 2000000 in
theorem fnSortCallsw (w : World) (A' : Option Addr) (n c' : Nat) (f : Nat → Int) (hf64 : ∀ i, I64 (f i)) (hl : n ≤ c') (hre : c' * 8 ≤ 140737488351232) (hrd' : Rd w w.heap.size (Value.int .i64) A' n f)
    (sz : Int) (A : Option Addr) (m c : Nat) (g : Nat → Bool) (hsz : I64 sz) (hlm : m ≤ c) (hrm : c ≤ 140737488351232) (hrd : Rd w w.heap.size Value.bool A m g) (hbk : c' ≤ 1048575) (hbm : c ≤ 1048575) :
    Calls Try.prog 4 #[.slice A' n c', .agg #[.int .i64 sz, .slice A m c]] w fun e w' => e = .returned (.bool true) ∧ Below w.heap.size w w' := by
  have hm : m ≤ 140737488351232 := by omega
  have hn : n ≤ 1048576 := by omega
  have HT := Lib.hid (fun w' (hb : Below w.heap.size w w') => toOrder sz A m c w.heap.size g w' hm hb.size (hrd.keep hb (Nat.le_refl _)))
  have HI := Lib.hid (fun w' A1 c1 (hb : Below w.heap.size w w') (hr : Rd w' w'.heap.size Value.bool A1 m g) => implSortCallsW sz A1 m c1 w'.heap.size g A' n c' w.heap.size f (fun i j => relB sz m g (f i) (f j)) w' hsz hm (Nat.le_refl _) hr hf64 hn hb.size (hrd'.keep hb (Nat.le_refl _)) (fun _ _ _ _ => rfl))
  have H0 := Lib.hid (BoxInv.first w sz A m c 33)
  have hok := logOk_pdq (fun i j => relB sz m g (f i) (f j)) n
  have hlen : (pdqS (logM fun i j => relB sz m g (f i) (f j)) othR n log0).2.length ≤ 9382000000000 := okW_pdq _ hn
  have HOk := Lib.hid hok; have HLen := Lib.hid hlen
  clear hrd hrd' hf64 hre hl hlm hrm hsz hok hlen hbk hbm
  generalize (pdqS (logM fun i j => relB sz m g (f i) (f j)) othR n log0).2 = l at *
  go_enter Try.func4, Try.ntmps4
  go_wp2_with fail
  refine (HT.out _ H0.out.bel).mono ?_
  rintro e w3 ⟨A1, c1, rfl, hr1, hb3⟩
  have H3 := Lib.hid (H0.out.step hb3)
  have HR3 := Lib.hid hr1
  clear hb3 hr1
  go_wp2_with fail
  refine (HI.out _ A1 c1 H3.out.bel HR3.out).mono ?_
  rintro e w4 ⟨v4, rfl, ho4, hb4⟩
  have H4 := Lib.hid (H3.out.step hb4)
  obtain ⟨A4, c4, rfl, hr4⟩ := rdC_of_own ho4
  have HR4 := Lib.hid hr4
  clear hb4 ho4 hr4 HI HT H3 HR3 H0
  have hlp := HOk.out.pos
  have hll := HLen.out
  generalize hL : l.length = L at *
  have HL := Lib.hid hL; clear hL
  go_wp2_with fail
  go_loopw [5, 13] (fun v vi wr => ∃ k : Nat, k ≤ L ∧ vi = .int .i64 k ∧ v = .int .i64 (if k = 0 then 0 else 1) ∧ Hid (Below w4.heap.size w4 wr)) (fun _ vi _ => L - (intOf vi).toNat)
  case atStart => exact ⟨0, Nat.zero_le _, rfl, rfl, Below.refl _ _⟩
  case round =>
    obtain ⟨k, hk, rfl, rfl, HB⟩ := hrel
    by_cases hlt : k < L
    · obtain ⟨b, off, rfl, hbl, z0, z1, z2⟩ := (HR4.out.keep HB.out (Nat.le_refl _)).at hlt
      have HBn := Lib.hid (fun o => HB.out.alloc HB.out.size o)
      cases k with
      | zero =>
        rw [HOk.out.first] at z0 z1 z2
        simp only [Nat.zero_mul, Nat.add_zero] at z0 z1 z2
        rw [if_pos rfl]
        go_wp2_with fail
        go_roundw
        case rel => exact ⟨1, hlt, by go_num, by first | rfl | go_num, by first | exact (HBn.out _) | exact (HBn.out _).setCell (p := ⟨_, 0, none⟩) HB.out.size _⟩
        case measure => simp [intOf]; omega
      | succ k =>
        obtain ⟨hc1, hc2, hc3⟩ := HOk.out.later (k := k) (by rw [HL.out]; exact hlt)
        generalize lgAt l (k + 1) = t at *
        obtain ⟨t1, t2, t3⟩ := t
        dsimp only at hc1 hc2 hc3 z0 z1 z2
        have g2 : (t2 : Int) < (n : Int) := by omega
        have g3 : (t3 : Int) < (n : Int) := by omega
        have g4 : (0 : Int) ≤ (t2 : Int) := by omega
        have g5 : (0 : Int) ≤ (t3 : Int) := by omega
        rw [if_neg (Nat.succ_ne_zero k)]
        rcases hc1 with rfl | rfl
        · go_wp2_with fail
          go_roundw
          case rel => exact ⟨k + 2, hlt, by go_num, by first | rfl | go_num, by first | exact (HBn.out _) | exact (HBn.out _).setCell (p := ⟨_, 0, none⟩) HB.out.size _⟩
          case measure => simp [intOf]; omega
        · go_wp2_with fail
          go_roundw
          case rel => exact ⟨k + 2, hlt, by go_num, by first | rfl | go_num, by first | exact (HBn.out _) | exact (HBn.out _).setCell (p := ⟨_, 0, none⟩) HB.out.size _⟩
          case measure => simp [intOf]; omega
    · obtain rfl : k = L := by omega
      have hk0 : k ≠ 0 := by omega
      rw [if_neg hk0]
      go_wp2_with fail
      go_ret
      exact ⟨rfl, H4.out.bel.trans (HB.out.mono H4.out.bel.size)⟩

set_option maxHeartbeats 2000000 in
theorem fnSortBySwapsw (w : World) (A' : Option Addr) (n c' : Nat) (f : Nat → Int) (hf64 : ∀ i, I64 (f i)) (hl : n ≤ c') (hre : c' * 8 ≤ 140737488351232) (hrd' : Rd w w.heap.size (Value.int .i64) A' n f)
    (sz : Int) (A : Option Addr) (m c : Nat) (g : Nat → Bool) (hsz : I64 sz) (hlm : m ≤ c) (hrm : c ≤ 140737488351232) (hrd : Rd w w.heap.size Value.bool A m g) (hbk : c' ≤ 1048575) (hbm : c ≤ 1048575) :
    Calls Try.prog 8 #[.slice A' n c', .agg #[.int .i64 sz, .slice A m c]] w fun e w' => e = .returned (.bool true) ∧ Below w.heap.size w w' := by
  have hm : m ≤ 140737488351232 := by omega
  have hn : n ≤ 1048576 := by omega
  have HT := Lib.hid (fun w' (hb : Below w.heap.size w w') => toOrder sz A m c w.heap.size g w' hm hb.size (hrd.keep hb (Nat.le_refl _)))
  have HI := Lib.hid (fun w' A1 c1 (hb : Below w.heap.size w w') (hr : Rd w' w'.heap.size Value.bool A1 m g) => implSortCallsW sz A1 m c1 w'.heap.size g A' n c' w.heap.size f (fun i j => relB sz m g (f i) (f j)) w' hsz hm (Nat.le_refl _) hr hf64 hn hb.size (hrd'.keep hb (Nat.le_refl _)) (fun _ _ _ _ => rfl))
  have HV := Lib.hid (fun w' A1 c1 (hb : Below w.heap.size w w') (hr : Rd w' w'.heap.size Value.bool A1 m g) => implSortSortByOrderV (logM fun i j => relB sz m g (f i) (f j)) (fun s => s.1) log0 rfl sz A1 m c1 w'.heap.size g A' n c' w.heap.size f (fun i j => relB sz m g (f i) (f j)) (logM_view _) w' hsz hm (Nat.le_refl _) hr hf64 (by omega) hb.size (hrd'.keep hb (Nat.le_refl _)) (fun _ _ _ _ => rfl))
  have H0 := Lib.hid (BoxInv.first w sz A m c 33)
  have hok := logOk_pdq (fun i j => relB sz m g (f i) (f j)) n
  have hlen : (pdqS (logM fun i j => relB sz m g (f i) (f j)) othR n log0).2.length ≤ 9382000000000 := okW_pdq _ hn
  have hrep := replay_pdq (fun i j => relB sz m g (f i) (f j)) n
  simp only [hrep] at HV
  have HOk := Lib.hid hok; have HLen := Lib.hid hlen
  have HRd := Lib.hid hrd'
  clear hrd hrd' hf64 hre hl hlm hrm hsz hok hlen hbk hbm hrep
  generalize (pdqS (logM fun i j => relB sz m g (f i) (f j)) othR n log0).2 = l at *
  have HRp := Lib.hid (fun w' A4 c4 (hb : Below w.heap.size w w') (hr : RdC w' w'.heap.size A4 l.length (lgAt l)) => replayedB A' n c' w.heap.size f A4 c4 w'.heap.size l w' hn hb.size (HRd.out.keep hb (Nat.le_refl _)) HLen.out (Nat.le_refl _) hr (logOk_swapsW HOk.out))
  have hlp : 0 < l.length := HOk.out.pos
  have hlp2 : (0 : Int) < (l.length : Int) := by omega
  have HLen2 := HLen.out
  generalize replay (fun k => k) l = p at *
  generalize hL : l.length = L at *
  have HL := Lib.hid hL; clear hL
  have hnn : n ≤ 4611686018427387903 := by omega
  go_enter Try.func8, Try.ntmps8
  go_wp2_with fail
  refine (HT.out _ H0.out.bel).mono ?_
  rintro e w3 ⟨A1, c1, rfl, hr1, hb3⟩
  have H3 := Lib.hid (H0.out.step hb3)
  have HR3 := Lib.hid hr1
  clear hb3 hr1
  go_wp2_with fail
  refine (HI.out _ A1 c1 H3.out.bel HR3.out).mono ?_
  rintro e w4 ⟨v4, rfl, ho4, hb4⟩
  have H4 := Lib.hid (H3.out.step hb4)
  obtain ⟨A4, c4, hv4, hr4⟩ := rdC_of_own ho4
  rw [HL.out] at hv4 hr4
  subst hv4
  have HR4 := Lib.hid hr4
  clear hb4 ho4 hr4 HI H3 HR3 H0
  go_wp2_with fail
  refine (HRp.out _ A4 c4 H4.out.bel HR4.out).mono ?_
  rintro e w5 ⟨v5, rfl, ⟨G5, hG5, hF5⟩, hb5⟩
  have H5 := Lib.hid (H4.out.step hb5)
  obtain ⟨A5, c5, rfl, hr5⟩ := hG5.rd (enc := Value.int .i64) (f := fun k => f (p k)) hF5
  have HR5 := Lib.hid hr5
  have p0 := H5.out.c0
  have p1 := H5.out.c1
  clear hb5 hG5 hF5 hr5 HR4 H4 HRp
  go_wp2_with fail
  refine (HT.out _ H5.out.bel).mono ?_
  rintro e w6 ⟨A6, c6, rfl, hr6, hb6⟩
  have H6 := Lib.hid (H5.out.step hb6)
  have HR6 := Lib.hid hr6
  have HR5' := Lib.hid (HR5.out.keep hb6 (Nat.le_refl _))
  have HS6 := Lib.hid hb6.size
  clear hb6 hr6 H5 HR5 p0 p1
  go_wp2_with fail
  refine (HV.out _ A6 c6 H6.out.bel HR6.out).mono ?_
  rintro e w7 ⟨v7, rfl, ⟨G7, hG7, hF7⟩, hb7⟩
  have H7 := Lib.hid (H6.out.step hb7)
  obtain ⟨A7, c7, rfl, hr7⟩ := hG7.rd (enc := Value.int .i64) (f := fun k => f (p k)) hF7
  have HR7 := Lib.hid hr7
  have HR8 := Lib.hid (HR5'.out.keep hb7 HS6.out)
  clear hb7 hr7 hG7 hF7 H6 HR6 HR5'
  go_wp2_with fail
  refine (sameInts n n c5 c7 A5 A7 _ _ _ _ _ hnn hnn HR8.out HR7.out).mono ?_
  rintro e w8 ⟨b8, rfl, hb8, q8, rfl⟩
  obtain rfl : b8 = true := hb8.2 ⟨rfl, fun _ _ => rfl⟩
  clear hb8
  have HE := Lib.hid (below_drewN H7.out.bel q8)
  go_wp2_with fail
  go_ret
  exact ⟨rfl, HE.out⟩
end Go.Proofs.Ytkklbnheiganlaa
