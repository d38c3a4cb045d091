/-
  The walk of sort's partialInsertionSort at an interface: it does what the plain program does.
-/
import Derived.Test.YtjammaglboehcaaPqI2
namespace Go.Proofs.Ytjammaglboehcaa
open Go.RowKit Go.Proofs
set_option linter.unusedVariables false

section
variable {σ : Type} {M : Mach σ} {f j b : Nat} {s : σ}
theorem insI_go (hv : M.less s (j + 1) j = true) : insInner M 0 (j + 1) s = insInner M 0 j (M.swap (M.tick s (j + 1) j) (j + 1) j) := by
  show (if 0 < j + 1 then _ else _) = _; rw [if_pos (Nat.succ_pos _), if_pos hv]
theorem insI_end (hv : M.less s (j + 1) j = false) : insInner M 0 (j + 1) s = M.tick s (j + 1) j := by
  show (if 0 < j + 1 then _ else _) = _; rw [if_pos (Nat.succ_pos _), if_neg (by rw [hv]; simp)]
theorem shiftU_stop (h : ¬ j < b) : shiftU M b f j s = s := by
  cases f with
  | zero => rfl
  | succ f => show (if j < b then _ else _) = _; rw [if_neg h]
theorem shiftU_go (h : j < b) (hv : M.less s j (j - 1) = true) : shiftU M b (f + 1) j s = shiftU M b f (j + 1) (M.swap (M.tick s j (j - 1)) j (j - 1)) := by
  show (if j < b then _ else _) = _; rw [if_pos h, if_pos hv]
theorem shiftU_end (h : j < b) (hv : M.less s j (j - 1) = false) : shiftU M b (f + 1) j s = M.tick s j (j - 1) := by
  show (if j < b then _ else _) = _; rw [if_pos h, if_neg (by rw [hv]; simp)]
end

section
variable {σ : Type} {M : Mach σ} {ok : σ → Prop} {R : σ → World → Prop} {T : TypeId} {rv : Value} {gl gs n : Nat}

/-- behind the scan of a step -/
theorem way_partI2 {σ : Type} {M : Mach σ} {n : Nat} (a b : Nat) (hb : b ≤ n) (k i : Nat) (s : σ) (h1 : 1 ≤ i) (h2 : i ≤ b) : Way M n ((k + 1) * (2 * b + 1) + b) (scanU M (fun i => i) (fun i => i - 1) false b (b - i) i s).2 (partI M a b (k + 1) i s).2 := by
  rw [partI_eq]
  have w1 := way_scanU (M := M) (n := n) (fun i => i) (fun i => i - 1) false b i (fun k _ hk => ⟨by omega, by omega⟩) (b - i) i s (Nat.le_refl _)
  generalize scanU M (fun i => i) (fun i => i - 1) false b (b - i) i s = r at *
  have h3 : (k + 1) * (2 * b + 1) = k * (2 * b + 1) + (2 * b + 1) := Nat.succ_mul _ _
  split
  · exact .nil _ _
  · split
    · exact .nil _ _
    · exact ((way_partIS a b r.1 r.2 (by omega) (by omega) hb).trans (way_partI a b hb k r.1 _ (by omega) (by omega))).mono (by omega)

set_option maxRecDepth 100000 in
set_option maxHeartbeats 8000000 in
theorem partialInsertionSortI (H : IfaceS M ok R T rv gl gs n) (a b : Nat) (hab : a < b) (hb : b ≤ n) (s : σ) (w : World) (hR : R s w) (hok : ok (partI M a b 5 (a + 1) s).2) :
    Calls Try.prog 86 #[.iface T rv, .int .i64 a, .int .i64 b] w fun e w' => e = .returned (.bool (partI M a b 5 (a + 1) s).1) ∧ R (partI M a b 5 (a + 1) s).2 w' := by
  have hn := H.hn
  have mS := H.mS
  have eS := H.eS
  have mL := H.mL
  have eL := H.eL
  have HS := Lib.hid H.swap
  have HL := Lib.hid H.less
  have HG := Lib.hid H.guard
  have H0 := Lib.hid (And.intro hR hok)
  clear H hR hok
  generalize hTG : partI M a b 5 (a + 1) s = TGT at *
  have HTG := Lib.hid hTG; clear hTG
  go_enter Try.func86, Try.ntmps86
  go_wp2_with fail
  go_loopg [7, 8] 5 (fun g vi vs wr => ∃ (i : Nat) (t : σ) (st : Nat), vi = .int .i64 i ∧ st + g = 5 ∧ vs = .int .i64 st ∧ a + 1 ≤ i ∧ i ≤ b ∧ Hid (R t wr ∧ partI M a b g i t = TGT))
  case atStart => exact ⟨a + 1, s, 0, by go_num, rfl, rfl, Nat.le_refl _, by omega, H0.out.1, HTG.out⟩
  case round =>
    obtain ⟨ip, tp, st, rfl, hst5, rfl, hip, hipb, HP0⟩ := hrel
    cases gk with
    | zero =>
      have hsz : ¬ ((st : Int) < 5) := by omega
      have HF : Hid (TGT = (false, tp)) := Lib.hid HP0.out.2.symm
      go_wp2_with fail
      go_ret
      exact ⟨by rw [HF.out]; rfl, by rw [HF.out]; exact HP0.out.1⟩
    | succ gq =>
      have hsz : (st : Int) < 5 := by omega
      have HT : Hid (partI M a b (gq + 1) ip tp = TGT) := Lib.hid HP0.out.2
      have HRp := Lib.hid HP0.out.1
      obtain ⟨SCN, hSC⟩ : ∃ x, x = scanU M (fun i => i) (fun i => i - 1) false b (b - ip) ip tp := ⟨_, rfl⟩
      have HOs : Hid (ok SCN.2) := Lib.hid (by rw [hSC]; exact (way_partI2 (n := n) a b hb gq ip tp (by omega) hipb).ok HG.out (by rw [HT.out]; exact H0.out.2))
      have HSC := Lib.hid hSC; clear hSC HP0
      go_wp2_with fail
      go_loopg [7] (b - ip) (fun g vi wr => ∃ (i : Nat) (t : σ), vi = .int .i64 i ∧ ip ≤ i ∧ i ≤ b ∧ b - i ≤ g ∧ Hid (R t wr ∧ scanU M (fun i => i) (fun i => i - 1) false b (b - i) i t = SCN))
      case atStart => exact ⟨ip, tp, by go_num, Nat.le_refl _, hipb, Nat.le_refl _, HRp.out, HSC.out.symm⟩
      case round =>
        obtain ⟨i2, t, rfl, hi2, hi2b, hg, HI⟩ := hrel
        go_upto_region 5 with fail
        go_cut [27] from 17 to 29 (fun sp wc => ∃ (c : Bool) (u : σ), sp = .bool c ∧ (c = true → i2 < b) ∧ Hid (R u wc ∧ (c = true → scanU M (fun i => i) (fun i => i - 1) false b (b - (i2 + 1)) (i2 + 1) u = SCN) ∧ (c = false → SCN = (i2, u))))
        case first =>
          by_cases hle : i2 < b
          · have hlz : (i2 : Int) < (b : Int) := by omega
            cases hv : M.less t i2 (i2 - 1)
            · skip
              have HF : Hid (scanU M (fun i => i) (fun i => i - 1) false b (b - (i2 + 1)) (i2 + 1) (M.tick t i2 (i2 - 1)) = SCN) := Lib.hid (by
                have h1 := HI.out.2
                rw [show b - i2 = (b - (i2 + 1)) + 1 by omega, scanU_go hle hv] at h1
                exact h1)
              have hC := HL.out t wr i2 (i2 - 1) (by omega) (by omega) HI.out.1 ((way_scanU (n := n) (fun i => i) (fun i => i - 1) false b (i2 + 1) (fun k _ hk => ⟨by omega, by omega⟩) _ (i2 + 1) _ (Nat.le_refl _)).1.ok HG.out (by rw [HF.out]; exact HOs.out))
              rw [hv, show ((i2 - 1 : Nat) : Int) = (i2 : Int) - 1 by omega] at hC
              have HC := Lib.hid hC; clear hC hv
              go_wp2_with fail
              refine HC.out.mono ?_
              rintro e w1 ⟨rfl, hR1⟩
              have HR1 := Lib.hid hR1; clear hR1
              go_wp2_with fail
              go_meet
              exact ⟨true, _, rfl, fun _ => hle, HR1.out, fun _ => HF.out, fun h => absurd h (by simp)⟩
            · skip
              have HF : Hid (SCN = (i2, M.tick t i2 (i2 - 1))) := Lib.hid (by
                have h1 := HI.out.2
                rw [show b - i2 = (b - (i2 + 1)) + 1 by omega, scanU_end hle (by rw [hv]; simp)] at h1
                exact h1.symm)
              have hC := HL.out t wr i2 (i2 - 1) (by omega) (by omega) HI.out.1 (by have h1 := HOs.out; rw [HF.out] at h1; exact h1)
              rw [hv, show ((i2 - 1 : Nat) : Int) = (i2 : Int) - 1 by omega] at hC
              have HC := Lib.hid hC; clear hC hv
              go_wp2_with fail
              refine HC.out.mono ?_
              rintro e w1 ⟨rfl, hR1⟩
              have HR1 := Lib.hid hR1; clear hR1
              go_wp2_with fail
              go_meet
              exact ⟨false, _, rfl, fun h => absurd h (by simp), HR1.out, fun h => absurd h (by simp), fun _ => HF.out⟩
          · have hlz : ¬ ((i2 : Int) < (b : Int)) := by omega
            have HF : Hid (SCN = (i2, t)) := Lib.hid (by rw [← HI.out.2]; exact scanU_stop hle)
            go_wp2_with fail
            go_meet
            exact ⟨false, t, rfl, fun h => absurd h (by simp), HI.out.1, fun h => absurd h (by simp), fun _ => HF.out⟩
        case rest =>
          clear HI
          obtain ⟨c, u, rfl, hc, HU⟩ := hcut
          cases c
          · have HX := Lib.hid (HSC.out.symm.trans (HU.out.2.2 rfl))
            have HRx := Lib.hid HU.out.1
            clear hc HU hg HSC HOs HRp
            by_cases hib : i2 = b
            · have hbz : ((i2 : Int) == (b : Int)) = true := by simp; omega
              have HF : Hid (TGT = (true, u)) := Lib.hid (by rw [← HT.out, partI_eq, show scanU M (fun i => i) (fun i => i - 1) false b (b - ip) ip tp = (i2, u) from HX.out]; dsimp only; rw [if_pos hib])
              go_wp2_with fail
              go_ret
              exact ⟨by rw [HF.out]; rfl, by rw [HF.out]; exact HRx.out⟩
            · have hbz : ((i2 : Int) == (b : Int)) = false := by simp; omega
              by_cases h50 : b - a < 50
              · have hfz : (b : Int) - (a : Int) < 50 := by omega
                have HF : Hid (TGT = (false, u)) := Lib.hid (by rw [← HT.out, partI_eq, show scanU M (fun i => i) (fun i => i - 1) false b (b - ip) ip tp = (i2, u) from HX.out]; dsimp only; rw [if_neg hib, if_pos h50])
                go_wp2_with fail
                go_ret
                exact ⟨by rw [HF.out]; rfl, by rw [HF.out]; exact HRx.out⟩
              · have hfz : ¬ ((b : Int) - (a : Int) < 50) := by omega
                have HTq : Hid (partI M a b gq i2 (partIS M a b i2 u) = TGT) := Lib.hid (by rw [← HT.out, partI_eq, show scanU M (fun i => i) (fun i => i - 1) false b (b - ip) ip tp = (i2, u) from HX.out]; dsimp only; rw [if_neg hib, if_neg h50])
                have hokP : ok (partIS M a b i2 u) := (way_partI (n := n) a b hb gq i2 _ (by omega) (by omega)).ok HG.out (by rw [HTq.out]; exact H0.out.2)
                obtain ⟨s1, hs1⟩ : ∃ x, x = M.swap u i2 (i2 - 1) := ⟨_, rfl⟩
                obtain ⟨s2, hs2⟩ : ∃ x, x = (if 2 ≤ i2 - a then insInner M 0 (i2 - 1) s1 else s1) := ⟨_, rfl⟩
                have hst : partIS M a b i2 u = (if 2 ≤ b - i2 then shiftU M b (b - (i2 + 1)) (i2 + 1) s2 else s2) := by unfold partIS; dsimp only; rw [← hs1, ← hs2]
                have hok2 : ok s2 := by
                  rw [hst] at hokP
                  split at hokP
                  · exact (way_shiftU (n := n) b hb _ _ _).ok HG.out hokP
                  · exact hokP
                have hok1 : ok s1 := by
                  rw [hs2] at hok2
                  split at hok2
                  · exact (way_insInner (n := n) 0 _ _ (by omega)).ok HG.out hok2
                  · exact hok2
                have hC := HS.out u wc i2 (i2 - 1) (by omega) (by omega) HRx.out (by rw [← hs1]; exact hok1)
                rw [← hs1, show ((i2 - 1 : Nat) : Int) = (i2 : Int) - 1 by omega] at hC
                have HC := Lib.hid hC; have HSt := Lib.hid hst; have HS2 := Lib.hid hs2; have HO2 := Lib.hid hok2; have HOP := Lib.hid hokP
                clear hC hst hs1 hs2 hok1 hok2 hokP HX
                go_upto_if 45 with (refine HC.out.mono ?_; rintro e w1 ⟨rfl, hR1⟩; have HRs := Lib.hid hR1; clear hR1)
                go_cut [9] from 13 to 84 (fun s9 wc => Hid (R s2 wc))
                case first =>
                  by_cases hge : 2 ≤ i2 - a
                  · have hgz : (i2 : Int) - (a : Int) ≥ 2 := by omega
                    have HOi : Hid (ok (insInner M 0 (i2 - 1) s1)) := Lib.hid (by have h1 := HO2.out; rw [HS2.out, if_pos hge] at h1; exact h1)
                    rw [show decide ((2 : Int) ≤ (i2 : Int) - (a : Int)) = true from decide_eq_true (by omega)]
                    go_wp2_with fail
                    go_loopg [9] (i2 - 1) (fun g vj wr => ∃ (j : Nat) (t : σ), vj = .int .i64 j ∧ j ≤ i2 - 1 ∧ j ≤ g ∧ Hid (R t wr ∧ insInner M 0 j t = insInner M 0 (i2 - 1) s1))
                    case atStart => exact ⟨i2 - 1, s1, by go_num, Nat.le_refl _, Nat.le_refl _, HRs.out, rfl⟩
                    case round =>
                      obtain ⟨j, t, rfl, hj, hg, HI⟩ := hrel
                      cases j with
                      | zero =>
                        have HF : Hid (insInner M 0 (i2 - 1) s1 = t) := Lib.hid HI.out.2.symm
                        go_wp2_with fail
                        go_meet
                        rw [HS2.out, if_pos hge, HF.out]; exact HI.out.1
                      | succ j =>
                        have hjz : ((j + 1 : Nat) : Int) ≥ 1 := by omega
                        have hcj : ((j : Nat) : Int) = ((j + 1 : Nat) : Int) - 1 := by omega
                        cases hv : M.less t (j + 1) j
                        · have HF : Hid (insInner M 0 (i2 - 1) s1 = M.tick t (j + 1) j) := Lib.hid (HI.out.2.symm.trans (insI_end hv))
                          have hC := HL.out t wr (j + 1) j (by omega) (by omega) HI.out.1 (by rw [← HF.out]; exact HOi.out)
                          rw [hv, hcj] at hC
                          have HC := Lib.hid hC; clear hC hv hcj
                          generalize hj1 : j + 1 = j1 at *
                          go_wp2_with fail
                          refine HC.out.mono ?_
                          rintro e w1 ⟨rfl, hR1⟩
                          have HR1 := Lib.hid hR1; clear hR1
                          go_wp2_with fail
                          go_meet
                          rw [HS2.out, if_pos hge, HF.out]; exact HR1.out
                        · have HF : Hid (insInner M 0 j (M.swap (M.tick t (j + 1) j) (j + 1) j) = insInner M 0 (i2 - 1) s1) := Lib.hid ((insI_go hv).symm.trans HI.out.2)
                          have hok1 : ok (M.swap (M.tick t (j + 1) j) (j + 1) j) := (way_insInner (n := n) 0 j _ (by omega)).ok HG.out (by rw [HF.out]; exact HOi.out)
                          have hC := HL.out t wr (j + 1) j (by omega) (by omega) HI.out.1 (HG.out.swap _ _ _ hok1)
                          have hS := fun w' hr => HS.out (M.tick t (j + 1) j) w' (j + 1) j (by omega) (by omega) hr hok1
                          rw [hv, hcj] at hC
                          rw [hcj] at hS
                          have HC := Lib.hid hC; have HW := Lib.hid hS; have HJ1 := Lib.hid hcj
                          clear hC hv hS hok1 hcj
                          generalize hj1 : j + 1 = j1 at *
                          go_wp2_with fail
                          refine HC.out.mono ?_
                          rintro e w1 ⟨rfl, hR1⟩
                          have HR1 := Lib.hid hR1; clear hR1
                          go_wp2_with fail
                          refine (HW.out _ HR1.out).mono ?_
                          rintro e w2 ⟨rfl, hR2⟩
                          have HR2 := Lib.hid hR2; clear hR2
                          go_wp2_with fail
                          go_roundg j
                          case measure => omega
                          case rel => exact ⟨j, _, by rw [HJ1.out], by omega, Nat.le_refl _, HR2.out, HF.out⟩
                  · have hgz : ¬ ((i2 : Int) - (a : Int) ≥ 2) := by omega
                    go_wp2_with fail
                    go_meet
                    rw [HS2.out, if_neg hge]; exact HRs.out
                case rest =>
                  have HR2s : Hid (R s2 wc) := hcut
                  clear hcut HRs HC
                  by_cases hg2 : 2 ≤ b - i2
                  · have hgz2 : (b : Int) - (i2 : Int) ≥ 2 := by omega
                    have HOh : Hid (ok (shiftU M b (b - (i2 + 1)) (i2 + 1) s2)) := Lib.hid (by have h1 := HOP.out; rw [HSt.out, if_pos hg2] at h1; exact h1)
                    go_wp2_with fail
                    go_loopg [10] (b - (i2 + 1)) (fun g vj wr => ∃ (j : Nat) (t : σ), vj = .int .i64 j ∧ i2 + 1 ≤ j ∧ j ≤ b ∧ b - j ≤ g ∧ Hid (R t wr ∧ shiftU M b (b - j) j t = shiftU M b (b - (i2 + 1)) (i2 + 1) s2))
                    case atStart => exact ⟨i2 + 1, s2, by go_num, Nat.le_refl _, by omega, Nat.le_refl _, HR2s.out, rfl⟩
                    case round =>
                      obtain ⟨j, t, rfl, hj, hjb, hg, HI⟩ := hrel
                      by_cases hlt : j < b
                      · have hlz : (j : Int) < (b : Int) := by omega
                        have hcj : ((j - 1 : Nat) : Int) = (j : Int) - 1 := by omega
                        cases hv : M.less t j (j - 1)
                        · have HF : Hid (shiftU M b (b - (i2 + 1)) (i2 + 1) s2 = M.tick t j (j - 1)) := Lib.hid (by
                            rw [← HI.out.2, show b - j = (b - (j + 1)) + 1 by omega]; exact shiftU_end hlt hv)
                          have hC := HL.out t wr j (j - 1) (by omega) (by omega) HI.out.1 (by rw [← HF.out]; exact HOh.out)
                          rw [hv, hcj] at hC
                          have HC := Lib.hid hC; clear hC hv hcj
                          go_wp2_with fail
                          refine HC.out.mono ?_
                          rintro e w1 ⟨rfl, hR1⟩
                          have HR1 := Lib.hid hR1; clear hR1
                          go_wp2_with fail
                          go_roundg gq
                          case measure => omega
                          case rel => exact ⟨i2, _, st + 1, rfl, by omega, by go_num, by omega, by omega, HR1.out, by rw [← HTq.out, HSt.out, if_pos hg2, HF.out]⟩
                        · have HF : Hid (shiftU M b (b - (j + 1)) (j + 1) (M.swap (M.tick t j (j - 1)) j (j - 1)) = shiftU M b (b - (i2 + 1)) (i2 + 1) s2) := Lib.hid (by
                            rw [← HI.out.2, show b - j = (b - (j + 1)) + 1 by omega]; exact (shiftU_go hlt hv).symm)
                          have hok1 : ok (M.swap (M.tick t j (j - 1)) j (j - 1)) := (way_shiftU (n := n) b hb _ _ _).ok HG.out (by rw [HF.out]; exact HOh.out)
                          have hC := HL.out t wr j (j - 1) (by omega) (by omega) HI.out.1 (HG.out.swap _ _ _ hok1)
                          have hS := fun w' hr => HS.out (M.tick t j (j - 1)) w' j (j - 1) (by omega) (by omega) hr hok1
                          rw [hv, hcj] at hC
                          rw [hcj] at hS
                          have HC := Lib.hid hC; have HW := Lib.hid hS
                          clear hC hv hS hok1 hcj
                          go_wp2_with fail
                          refine HC.out.mono ?_
                          rintro e w1 ⟨rfl, hR1⟩
                          have HR1 := Lib.hid hR1; clear hR1
                          go_wp2_with fail
                          refine (HW.out _ HR1.out).mono ?_
                          rintro e w2 ⟨rfl, hR2⟩
                          have HR2 := Lib.hid hR2; clear hR2
                          go_wp2_with fail
                          go_roundg (b - (j + 1))
                          case measure => omega
                          case rel => exact ⟨j + 1, _, by go_num, by omega, by omega, Nat.le_refl _, HR2.out, HF.out⟩
                      · have hlz : ¬ ((j : Int) < (b : Int)) := by omega
                        have HF : Hid (shiftU M b (b - (i2 + 1)) (i2 + 1) s2 = t) := Lib.hid (by rw [← HI.out.2]; exact shiftU_stop hlt)
                        go_wp2_with fail
                        go_roundg gq
                        case measure => omega
                        case rel => exact ⟨i2, _, st + 1, rfl, by omega, by go_num, by omega, by omega, HI.out.1, by rw [← HTq.out, HSt.out, if_pos hg2, HF.out]⟩
                  · have hgz2 : ¬ ((b : Int) - (i2 : Int) ≥ 2) := by omega
                    go_wp2_with fail
                    go_roundg gq
                    case measure => omega
                    case rel => exact ⟨i2, _, st + 1, rfl, by omega, by go_num, by omega, by omega, HR2s.out, by rw [← HTq.out, HSt.out, if_neg hg2]⟩
          · have hle := hc rfl
            have HV := Lib.hid (And.intro HU.out.1 (HU.out.2.1 rfl))
            clear hc HU
            go_wp2_with fail
            go_roundg (b - (i2 + 1))
            case measure => omega
            case rel => exact ⟨i2 + 1, u, by go_num, by omega, by omega, Nat.le_refl _, HV.out.1, HV.out.2⟩
end
end Go.Proofs.Ytjammaglboehcaa
