/-
  The walk of the law FnOrderSortsKeepArgument.
-/
import Derived.Test.YtjammaglboehcaaPqK1
import Derived.Test.YtjammaglboehcaaZG
import Derived.Test.YtjammaglboehcaaPqVw
import Derived.Test.YtjammaglboehcaaStW3
import Derived.Test.YtjammaglboehcaaStV
import Derived.Test.YtjammaglboehcaaSame
import Derived.Deep.RegionHeld3
import Derived.Deep.DeepCutAuto
namespace Go.Proofs.Ytjammaglboehcaa
open Go.RowKit Go.Proofs
set_option linter.unusedVariables false

theorem posW (T : Nat → Nat → Bool) (n : Nat) : 0 < (pdqS (logM T) othR n log0).2.length :=
  (way_pdqS (M := logM T) (n := n) othR_ok log0).keep (K := fun s => 0 < s.2.length) ⟨fun s i j _ _ _ => by show 0 < (s.2 ++ [(2, i, j)]).length; simp, fun s i j _ _ _ => by show 0 < (s.2 ++ [(3, i, j)]).length; simp⟩ (show 0 < [(1, 0, 0)].length by simp)
theorem posS (T : Nat → Nat → Bool) (n : Nat) : 0 < (stable (logM T) n log0).2.length :=
  keep_stable (K := fun s => 0 < s.2.length) ⟨fun s i j _ _ _ => by show 0 < (s.2 ++ [(2, i, j)]).length; simp, fun s i j _ _ _ => by show 0 < (s.2 ++ [(3, i, j)]).length; simp⟩ log0 (show 0 < [(1, 0, 0)].length by simp)
/-- A slice of so many. -/
def NewS (n : Nat) (w : World) (e : Ending) (w' : World) : Prop := ∃ A c, e = .returned (.slice A n c) ∧ Below w.heap.size w w'
theorem OutP.newS {w w' : World} {n : Nat} {f : Nat → Int} {p : Nat → Nat} {e : Ending} (h : OutP w n f p e w') : NewS n w e w' := by
  obtain ⟨v, h1, ⟨G, hG, hF⟩, h3⟩ := h
  obtain ⟨A, c, rfl, _⟩ := hG.rd (enc := Value.int .i64) (f := fun k => f (p k)) hF
  exact ⟨A, c, h1, h3⟩
theorem OutL.newS {w w' : World} {l : Log} {e : Ending} (h : OutL w l e w') : NewS l.length w e w' := by
  obtain ⟨v, h1, h2, h3⟩ := h
  obtain ⟨A, c, rfl, _⟩ := rdC_of_own h2
  exact ⟨A, c, h1, h3⟩
theorem infoIntK : (Try.prog.info? 3).map (fun i => (i.zero, i.size, i.bytes)) = some (some (.int .i64 0), 1, 8) := by kernel_rfl

set_option maxRecDepth 100000 in
set_option maxHeartbeats 4000000 in
theorem fnOrderSortsKeepArgumentw (w : World) (A' : Option Addr) (n c' : Nat) (f : Nat → Int) (hf64 : ∀ i, I64 (f i)) (hl : n ≤ c') (hre : c' * 8 ≤ 140737488351232) (hrd' : Rd w w.heap.size (Value.int .i64) A' n f)
    (sz : Int) (A : Option Addr) (m c : Nat) (g : Nat → Bool) (hsz : I64 sz) (hlm : m ≤ c) (hrm : c ≤ 140737488351232) (hrd : Rd w w.heap.size Value.bool A m g) (hbk : c' ≤ 1048575) (hbm : c ≤ 1048575) :
    Calls Try.prog 7 #[.slice A' n c', .agg #[.int .i64 sz, .slice A m c]] w fun e w' => e = .returned (.bool true) ∧ Below w.heap.size w w' := by
  obtain ⟨i0, hi0, hz0, hs0, hby0⟩ := info_parts infoIntK
  have hm : m ≤ 140737488351232 := by omega
  have hn : n ≤ 1048576 := by omega
  have hn8 : n * 8 ≤ 140737488351232 := by omega
  have hmm : m ≤ 1048576 := by omega
  have HT := Lib.hid (fun w' (hb : Below w.heap.size w w') => toOrder sz A m c w.heap.size g w' hm hb.size (hrd.keep hb (Nat.le_refl _)))
  have H0 := Lib.hid (BoxInv.first w sz A m c 38)
  have HS1 := Lib.hid (fun b A1 c1 Ay cy B w' (h : KInv w sz A m c n f g b A1 c1 Ay B w') => (implSortByOrderAny sz A1 m c1 B g Ay n cy B f w' hsz hm h.2.2.1 h.2.2.2.1 hf64 hn8 h.2.2.1 h.2.2.2.2).mono (R' := NewS n w') fun e w2 q => by obtain ⟨p, q⟩ := q; exact q.newS)
  have HS2 := Lib.hid (fun b A1 c1 Ay cy B w' (h : KInv w sz A m c n f g b A1 c1 Ay B w') => (implStableByOrder sz A1 m c1 B g Ay n cy B f (fun i j => relB sz m g (f i) (f j)) w' hsz hm h.2.2.1 h.2.2.2.1 hf64 hn8 h.2.2.1 h.2.2.2.2 (fun _ _ _ _ => rfl)).mono (R' := NewS n w') fun e w2 q => q.newS)
  have HS3 := Lib.hid (fun b A1 c1 Ay cy B w' (h : KInv w sz A m c n f g b A1 c1 Ay B w') => (implSortSortByOrder sz A1 m c1 B g Ay n cy B f (fun i j => relB sz m g (f i) (f j)) w' hsz hm h.2.2.1 h.2.2.2.1 hf64 hn8 h.2.2.1 h.2.2.2.2 (fun _ _ _ _ => rfl)).mono (R' := NewS n w') fun e w2 q => q.newS)
  have HS4 := Lib.hid (fun b A1 c1 Ay cy B w' (h : KInv w sz A m c n f g b A1 c1 Ay B w') => (implSortStableByOrder sz A1 m c1 B g Ay n cy B f (fun i j => relB sz m g (f i) (f j)) w' hsz hm h.2.2.1 h.2.2.2.1 hf64 hn8 h.2.2.1 h.2.2.2.2 (fun _ _ _ _ => rfl)).mono (R' := NewS n w') fun e w2 q => q.newS)
  have HS5 := Lib.hid (fun b A1 c1 Ay cy B w' (h : KInv w sz A m c n f g b A1 c1 Ay B w') => (implSortCallsW sz A1 m c1 B g Ay n cy B f (fun i j => relB sz m g (f i) (f j)) w' hsz hm h.2.2.1 h.2.2.2.1 hf64 hn h.2.2.1 h.2.2.2.2 (fun _ _ _ _ => rfl)).mono (R' := NewS (pdqS (logM fun i j => relB sz m g (f i) (f j)) othR n log0).2.length w') fun e w2 q => q.newS)
  have HS6 := Lib.hid (fun b A1 c1 Ay cy B w' (h : KInv w sz A m c n f g b A1 c1 Ay B w') => (implStableCalls sz A1 m c1 B g Ay n cy B f (fun i j => relB sz m g (f i) (f j)) w' hsz hm h.2.2.1 h.2.2.2.1 hf64 hn h.2.2.1 h.2.2.2.2 (fun _ _ _ _ => rfl)).mono (R' := NewS (stable (logM fun i j => relB sz m g (f i) (f j)) n log0).2.length w') fun e w2 q => q.newS)
  have hp1 := posW (fun i j => relB sz m g (f i) (f j)) n
  have hp2 := posS (fun i j => relB sz m g (f i) (f j)) n
  have hq1 : (pdqS (logM fun i j => relB sz m g (f i) (f j)) othR n log0).2.length ≤ 9382000000000 := okW_pdq _ hn
  have hq2 : (stable (logM fun i j => relB sz m g (f i) (f j)) n log0).2.length ≤ 5864062014805 := okL_stable _ n hn
  generalize (pdqS (logM fun i j => relB sz m g (f i) (f j)) othR n log0).2.length = N1 at *
  generalize (stable (logM fun i j => relB sz m g (f i) (f j)) n log0).2.length = N2 at *
  have HR := Lib.hid hrd'; have HRo := Lib.hid hrd
  clear hrd hrd' hf64 hre hl hlm hrm hsz hbk hbm
  go_enter Try.func7, Try.ntmps7
  go_upto_region 1 with fail
  go_cut [5, 6] (fun s5 s6 wc => ∃ (Ay : Option Addr) (cy b : Nat) (A1 : Option Addr) (c1 : Nat), s5 = .slice Ay n cy ∧ s6 = .pointer (some ⟨b, 0, none⟩) ∧ Hid (KInv w sz A m c n f g b A1 c1 Ay wc.heap.size wc))
  case first =>
    have p0 := H0.out.c0
    have p1 := H0.out.c1
    have HI : Hid (OI w sz A m c n f g none none none ((w.alloc (.cells #[.int .i64 sz, .slice A m c] 38)).drewN 1)) := Lib.hid ((OI.first H0.out).drewN 1)
    have n1 : w.heap.size < (w.alloc (.cells #[.int .i64 sz, .slice A m c] 38)).heap.size := H0.out.lt
    generalize (w.alloc (.cells #[.int .i64 sz, .slice A m c] 38)) = V at *
    have n2 : ¬ (w.heap.size = V.heap.size) := by omega
    have n3 : ¬ (V.heap.size = w.heap.size) := by omega
    clear HS1 HS2 HS3 HS4 HS5 HS6 n1
    go_region_held3 (fun w' => w'.cell? ⟨w.heap.size, 0, none⟩ = some (.int .i64 sz) ∧ w'.cell? ⟨w.heap.size, 1, none⟩ = some (.slice A m c))
      (go_keep)
      (first
        | (go_at_call 28; refine (HT.out _ (by first | exact HI.out.box.bel | exact HI.out.alloc.box.bel)).mono ?_; rintro e w3 ⟨A1, c1, rfl, hr3, hb3⟩; have HI := Lib.hid (OI.call (by first | exact HI.out | exact HI.out.alloc) hr3 hb3); have q0 := HI.out.box.c0; have q1 := HI.out.box.c1; have q2 : ¬ (w.heap.size = w3.heap.size) := (by have := HI.out.box.lt; omega); have q3 : ¬ (w3.heap.size = w.heap.size) := (by have := HI.out.box.lt; omega); (try (have z0 := HI.out.r0; have z1 := HI.out.r1; have z2 := HI.out.f0; have z3 := HI.out.f1; have z4 := HI.out.ne)); (try (have y0 : w3.cell? ⟨V.heap.size, 0, none⟩ = some (.int .i64 0) := HI.out.r0; have y1 : w3.cell? ⟨V.heap.size, 1, none⟩ = some (.slice none 0 0) := HI.out.r1; have y2 : w3.frozen? ⟨V.heap.size, 0, none⟩ = false := HI.out.f0; have y3 : w3.frozen? ⟨V.heap.size, 1, none⟩ = false := HI.out.f1)); clear hr3 hb3)
        | (refine step_copy_nil (by rfl) _ _ _ (by rfl) 3 i0 _ 1 8 Try.underlying25 hi0 hz0 hs0 hby0 rfl (by omega) A' n c' (fun j => .int .i64 (f j)) (by rfl) (by rfl) (fun h => by obtain ⟨k, off, hA, hlt, hc⟩ := HR.out h; exact ⟨k, off, hA, fun j hj => (Below.cell (B := w.heap.size) (p := ⟨k, off + j, none⟩) (by first | exact HI.out.box.bel | exact HI.out.alloc.box.bel | exact (HI.out.store _ _ _ _).box.bel | exact (HI.out.alloc.store _ _ _ _).box.bel) hlt).trans (hc j (by omega))⟩) (fun j hj => by simp [Value.oneCell']) (by simp [maxLen]; omega) (by omega) ?_; intro v1 w1 hcp; obtain ⟨Ay, cy, rfl, _⟩ := Copied.rd (enc := Value.int .i64) hcp; have HI := Lib.hid (OI.app (by first | exact HI.out | exact HI.out.alloc | exact HI.out.store _ _ _ _ | exact HI.out.alloc.store _ _ _ _) hcp); have q0 := HI.out.box.c0; have q1 := HI.out.box.c1; have q2 : ¬ (w.heap.size = w1.heap.size) := (by have := HI.out.box.lt; omega); have q3 : ¬ (w1.heap.size = w.heap.size) := (by have := HI.out.box.lt; omega); (try (have z0 := HI.out.r0; have z1 := HI.out.r1; have z2 := HI.out.f0; have z3 := HI.out.f1; have z4 := HI.out.ne)); (try (have y0 : w1.cell? ⟨V.heap.size, 0, none⟩ = some (.int .i64 0) := HI.out.r0; have y1 : w1.cell? ⟨V.heap.size, 1, none⟩ = some (.slice none 0 0) := HI.out.r1; have y2 : w1.frozen? ⟨V.heap.size, 0, none⟩ = false := HI.out.f0; have y3 : w1.frozen? ⟨V.heap.size, 1, none⟩ = false := HI.out.f1)); clear hcp))
    all_goals
      go_wp2_with fail
      go_meet
      exact ⟨_, _, _, _, _, rfl, rfl, by first | exact KInv.of HI.out | exact KInv.of (HI.out.made _ _ _ _) | exact KInv.of (HI.out.store _ _ _ _) | exact KInv.of (HI.out.alloc.store _ _ _ _)⟩
  case rest =>
    obtain ⟨Ay, cy, b, A1, c1, rfl, rfl, HK0⟩ := hcut
    have q0 := HK0.out.2.1.2.1
    have q1 := HK0.out.2.1.2.2
    obtain ⟨B, hB⟩ : ∃ B, B = wc.heap.size := ⟨_, rfl⟩
    have HK : Hid (KInv w sz A m c n f g b A1 c1 Ay B (wc.drewN 1)) := Lib.hid (by rw [hB]; exact HK0.out.drewN 1)
    clear hB HK0 H0 HT
    go_wp2_with fail
    go_region_held3 (fun w' => w'.cell? ⟨b, 0, none⟩ = some (.int .i64 sz) ∧ w'.cell? ⟨b, 1, none⟩ = some (.slice A1 m c1))
      (go_keep)
      (first
        | (go_at_call 22; refine (HS1.out b A1 c1 Ay cy B _ HK.out).mono ?_; rintro e w11 ⟨A11, c11, rfl, hb11⟩; have HK := Lib.hid (HK.out.step hb11); have q0 := HK.out.2.1.2.1; have q1 := HK.out.2.1.2.2; clear hb11)
        | (go_at_call 24; refine (HS2.out b A1 c1 Ay cy B _ HK.out).mono ?_; rintro e w12 ⟨A12, c12, rfl, hb12⟩; have HK := Lib.hid (HK.out.step hb12); have q0 := HK.out.2.1.2.1; have q1 := HK.out.2.1.2.2; clear hb12)
        | (go_at_call 23; refine (HS3.out b A1 c1 Ay cy B _ HK.out).mono ?_; rintro e w13 ⟨A13, c13, rfl, hb13⟩; have HK := Lib.hid (HK.out.step hb13); have q0 := HK.out.2.1.2.1; have q1 := HK.out.2.1.2.2; clear hb13)
        | (go_at_call 25; refine (HS4.out b A1 c1 Ay cy B _ HK.out).mono ?_; rintro e w14 ⟨A14, c14, rfl, hb14⟩; have HK := Lib.hid (HK.out.step hb14); have q0 := HK.out.2.1.2.1; have q1 := HK.out.2.1.2.2; clear hb14))
    go_wp2_with fail
    have HK := Lib.hid (HK.out.drewN 1)
    go_region_held3 (fun w' => w'.cell? ⟨b, 0, none⟩ = some (.int .i64 sz) ∧ w'.cell? ⟨b, 1, none⟩ = some (.slice A1 m c1))
      (go_keep)
      (first
        | (go_at_call 29; refine (HS5.out b A1 c1 Ay cy B _ HK.out).mono ?_; rintro e w15 ⟨A15, c15, rfl, hb15⟩; have HK := Lib.hid (HK.out.step hb15); have q0 := HK.out.2.1.2.1; have q1 := HK.out.2.1.2.2; clear hb15)
        | (go_at_call 30; refine (HS6.out b A1 c1 Ay cy B _ HK.out).mono ?_; rintro e w16 ⟨A16, c16, rfl, hb16⟩; have HK := Lib.hid (HK.out.step hb16); have q0 := HK.out.2.1.2.1; have q1 := HK.out.2.1.2.2; clear hb16))
    have hnn : n ≤ 4611686018427387903 := by omega
    have HSm := Lib.hid (sameInts n n c' cy A' Ay f f w16 _ _ hnn hnn (HR.out.keep HK.out.1.bel (Nat.le_refl _)) HK.out.2.2.2.2)
    have p0 := HK.out.1.c0
    have p1 := HK.out.1.c1
    have e1 : ((sz : Int) != (sz : Int)) = false := by simp
    have e2 : ((m : Int) != (m : Int)) = false := by simp
    have e3 : ((N1 : Int) == 0) = false := by simp; omega
    have e4 : ((N2 : Int) == 0) = false := by simp; omega
    have e5 : ((n : Int) == (n : Int)) = true := by simp
    clear HS1 HS2 HS3 HS4 HS5 HS6
    go_wp2_with fail
    refine HSm.out.mono ?_
    rintro e w17 ⟨b9, rfl, hb9, q9, rfl⟩
    obtain rfl : b9 = true := hb9.2 ⟨rfl, fun _ _ => rfl⟩
    clear hb9 HSm
    go_wp2_with fail
    go_loopg [69] m (fun q vi wr => ∃ k q5 : Nat, k ≤ m ∧ m - k ≤ q ∧ vi = .int .i64 k ∧ wr = w16.drewN q5)
    case atStart => exact ⟨0, q9, Nat.zero_le _, by omega, rfl, rfl⟩
    case round =>
      obtain ⟨k, q5, hk, hqq, rfl, rfl⟩ := hrel
      by_cases hlt : k < m
      · obtain ⟨bx, ox, rfl, _, h1⟩ := HK.out.2.2.2.1.at hlt
        obtain ⟨bz, oz, rfl, _, h2⟩ := (HRo.out.keep HK.out.1.bel (Nat.le_refl _)).at hlt
        have hkl : (k : Int) < (m : Int) := by omega
        generalize g k = gx at h1 h2
        have e6 : (gx != gx) = false := by simp
        go_wp2
        go_quiet (fail)
        go_wp2
        go_roundg (m - (k + 1))
        case measure => omega
        case rel => exact ⟨k + 1, _, hlt, Nat.le_refl _, by go_num, rfl⟩
      · have hkl : ¬ ((k : Int) < (m : Int)) := by omega
        have HZ := Lib.hid HK.out.1.bel
        go_wp2_with fail
        go_ret
        exact ⟨rfl, below_drewN HZ.out _⟩
end Go.Proofs.Ytjammaglboehcaa
