/-
  The walks of sort's siftDown, heapSort and reverseRange at an interface: each does what the plain program does.
-/
import Derived.Test.YtjammaglboehcaaStI
import Derived.Test.YtjammaglboehcaaZB
import Derived.Deep.LoopGhost
namespace Go.Proofs.Ytjammaglboehcaa
open Go.RowKit Go.Proofs
set_option linter.unusedVariables false

section
variable {σ : Type} {M : Mach σ} {n : Nat}
/-- siftDown behind the choice of the child c -/
def siftT (M : Mach σ) (hi first f r c : Nat) (s : σ) : σ := if M.less s (first + r) (first + c) = true then siftD M hi first f c (M.swap (M.tick s (first + r) (first + c)) (first + r) (first + c)) else M.tick s (first + r) (first + c)
theorem siftT_yes {hi first f r c : Nat} {s : σ} (h : M.less s (first + r) (first + c) = true) : siftT M hi first f r c s = siftD M hi first f c (M.swap (M.tick s (first + r) (first + c)) (first + r) (first + c)) := by unfold siftT; rw [if_pos h]
theorem siftT_no {hi first f r c : Nat} {s : σ} (h : M.less s (first + r) (first + c) = false) : siftT M hi first f r c s = M.tick s (first + r) (first + c) := by unfold siftT; rw [if_neg (by rw [h]; simp)]
theorem siftD_r {hi first f r : Nat} {s : σ} (h : 2 * r + 2 < hi) (hv : M.less s (first + (2 * r + 1)) (first + (2 * r + 2)) = true) : siftD M hi first (f + 1) r s = siftT M hi first f r (2 * r + 2) (M.tick s (first + (2 * r + 1)) (first + (2 * r + 2))) := by
  show (if hi ≤ 2 * r + 1 then _ else _) = _
  rw [if_neg (by omega), if_pos h, if_pos hv]; rfl
theorem siftD_l {hi first f r : Nat} {s : σ} (h : 2 * r + 2 < hi) (hv : M.less s (first + (2 * r + 1)) (first + (2 * r + 2)) = false) : siftD M hi first (f + 1) r s = siftT M hi first f r (2 * r + 1) (M.tick s (first + (2 * r + 1)) (first + (2 * r + 2))) := by
  show (if hi ≤ 2 * r + 1 then _ else _) = _
  rw [if_neg (by omega), if_pos h, if_neg (by rw [hv]; simp)]; rfl
theorem siftD_o {hi first f r : Nat} {s : σ} (h0 : 2 * r + 1 < hi) (h : ¬ 2 * r + 2 < hi) : siftD M hi first (f + 1) r s = siftT M hi first f r (2 * r + 1) s := by
  show (if hi ≤ 2 * r + 1 then _ else _) = _
  rw [if_neg (by omega), if_neg h]; rfl
theorem way_siftT (hi first : Nat) (hf : first + hi ≤ n) (f r c : Nat) (s : σ) (hr : r < hi) (hc : c < hi) : Way M n (3 * f + 2) s (siftT M hi first f r c s) := by
  unfold siftT
  split
  · exact ((Way.both s (by omega) (by omega)).trans (way_siftD' hi first hf f c _)).mono (by omega)
  · exact (Way.tick1 s (by omega) (by omega)).mono (by omega)
end

section
variable {σ : Type} {M : Mach σ} {ok : σ → Prop} {R : σ → World → Prop} {T : TypeId} {rv : Value} {gl gs n : Nat}

set_option maxRecDepth 100000 in
set_option maxHeartbeats 4000000 in
theorem siftDownI (H : IfaceS M ok R T rv gl gs n) (lo hi first f0 : Nat) (hf : first + hi ≤ n) (hlo : lo ≤ n) (hf0 : hi - lo ≤ f0) (s : σ) (w : World) (hR : R s w) (hok : ok (siftD M hi first f0 lo s)) :
    Calls Try.prog 125 #[.iface T rv, .int .i64 lo, .int .i64 hi, .int .i64 first] w (Leaves R (siftD M hi first f0 lo s)) := by
  have hn := H.hn
  have mS := H.mS
  have eS := H.eS
  have mL := H.mL
  have eL := H.eL
  have HS := Lib.hid H.swap
  have HL := Lib.hid H.less
  have HG := Lib.hid H.guard
  have H0 := Lib.hid (And.intro hR hok)
  clear H hR hok
  go_enter Try.func125, Try.ntmps125
  go_wp2_with fail
  go_loopw [8] (fun vi wr => ∃ (r f : Nat) (t : σ), r ≤ n ∧ vi = .int .i64 r ∧ hi - r ≤ f ∧ Hid (R t wr ∧ siftD M hi first f r t = siftD M hi first f0 lo s)) (fun vi _ => hi - (intOf vi).toNat)
  case atStart => exact ⟨lo, f0, s, hlo, rfl, hf0, H0.out.1, rfl⟩
  case round =>
    obtain ⟨r, f, t, hr, rfl, hfu, HI⟩ := hrel
    by_cases hc0 : hi ≤ 2 * r + 1
    · have hz : (2 : Int) * (r : Int) + 1 ≥ (hi : Int) := by omega
      have HE := Lib.hid (HI.out.2.symm.trans (siftD_none hi first f r t hc0))
      go_wp2_with fail
      go_end0
      exact ⟨rfl, by rw [HE.out]; exact HI.out.1⟩
    · obtain ⟨f, rfl⟩ : ∃ g, f = g + 1 := ⟨f - 1, by omega⟩
      have hz : ¬ ((2 : Int) * (r : Int) + 1 ≥ (hi : Int)) := by omega
      by_cases hc1 : 2 * r + 2 < hi
      · have hz1 : (2 : Int) * (r : Int) + 1 + 1 < (hi : Int) := by omega
        cases hv0 : M.less t (first + (2 * r + 1)) (first + (2 * r + 2))
        · have HE := Lib.hid (HI.out.2.symm.trans (siftD_l hc1 hv0))
          have hC := HL.out t wr (first + (2 * r + 1)) (first + (2 * r + 2)) (by omega) (by omega) HI.out.1 ((way_siftT hi first hf f r (2 * r + 1) _ (by omega) (by omega)).ok HG.out (by rw [← HE.out]; exact H0.out.2))
          rw [hv0, show ((first + (2 * r + 1) : Nat) : Int) = (first : Int) + (2 * (r : Int) + 1) by omega, show ((first + (2 * r + 2) : Nat) : Int) = (first : Int) + (2 * (r : Int) + 1) + 1 by omega] at hC
          have HC := Lib.hid hC; clear hC hv0
          generalize hu : M.tick t (first + (2 * r + 1)) (first + (2 * r + 2)) = u at *
          cases hv2 : M.less u (first + r) (first + (2 * r + 1))
          · have HF := Lib.hid (HE.out.trans (siftT_no hv2))
            have hC2 := fun w' hr => HL.out u w' (first + r) (first + (2 * r + 1)) (by omega) (by omega) hr (by rw [← HF.out]; exact H0.out.2)
            rw [hv2, show ((first + r : Nat) : Int) = (first : Int) + (r : Int) by omega, show ((first + (2 * r + 1) : Nat) : Int) = (first : Int) + (2 * (r : Int) + 1) by omega] at hC2
            have HC2 := Lib.hid hC2
            clear hv2 hC2
            go_wp2_with fail
            refine HC.out.mono ?_
            rintro e w1 ⟨rfl, hR1⟩
            have HR1 := Lib.hid hR1; clear hR1
            go_wp2_with fail
            refine (HC2.out _ HR1.out).mono ?_
            rintro e w2 ⟨rfl, hR2⟩
            have HR2 := Lib.hid hR2; clear hR2
            go_wp2_with fail
            go_end0
            exact ⟨rfl, by rw [HF.out]; exact HR2.out⟩
          · have HF := Lib.hid (HE.out.trans (siftT_yes hv2))
            have hokS : ok (M.swap (M.tick u (first + r) (first + (2 * r + 1))) (first + r) (first + (2 * r + 1))) := (way_siftD' hi first hf f ((2 * r + 1)) _).ok HG.out (by rw [← HF.out]; exact H0.out.2)
            have hC2 := fun w' hr => HL.out u w' (first + r) (first + (2 * r + 1)) (by omega) (by omega) hr (HG.out.swap _ _ _ hokS)
            have hS2 := fun w' hr => HS.out (M.tick u (first + r) (first + (2 * r + 1))) w' (first + r) (first + (2 * r + 1)) (by omega) (by omega) hr hokS
            rw [hv2, show ((first + r : Nat) : Int) = (first : Int) + (r : Int) by omega, show ((first + (2 * r + 1) : Nat) : Int) = (first : Int) + (2 * (r : Int) + 1) by omega] at hC2
            rw [show ((first + r : Nat) : Int) = (first : Int) + (r : Int) by omega, show ((first + (2 * r + 1) : Nat) : Int) = (first : Int) + (2 * (r : Int) + 1) by omega] at hS2
            have HC2 := Lib.hid hC2; have HS2 := Lib.hid hS2
            clear hv2 hC2 hS2 hokS
            go_wp2_with fail
            refine HC.out.mono ?_
            rintro e w1 ⟨rfl, hR1⟩
            have HR1 := Lib.hid hR1; clear hR1
            go_wp2_with fail
            refine (HC2.out _ HR1.out).mono ?_
            rintro e w2 ⟨rfl, hR2⟩
            have HR2 := Lib.hid hR2; clear hR2
            go_wp2_with fail
            refine (HS2.out _ HR2.out).mono ?_
            rintro e w3 ⟨rfl, hR3⟩
            have HR3 := Lib.hid hR3; clear hR3
            go_wp2_with fail
            go_roundw
            case rel => exact ⟨(2 * r + 1), f, _, by omega, by go_num, by omega, HR3.out, HF.out.symm⟩
            case measure => simp [intOf]; omega
        · have HE := Lib.hid (HI.out.2.symm.trans (siftD_r hc1 hv0))
          have hC := HL.out t wr (first + (2 * r + 1)) (first + (2 * r + 2)) (by omega) (by omega) HI.out.1 ((way_siftT hi first hf f r (2 * r + 2) _ (by omega) (by omega)).ok HG.out (by rw [← HE.out]; exact H0.out.2))
          rw [hv0, show ((first + (2 * r + 1) : Nat) : Int) = (first : Int) + (2 * (r : Int) + 1) by omega, show ((first + (2 * r + 2) : Nat) : Int) = (first : Int) + (2 * (r : Int) + 1) + 1 by omega] at hC
          have HC := Lib.hid hC; clear hC hv0
          generalize hu : M.tick t (first + (2 * r + 1)) (first + (2 * r + 2)) = u at *
          cases hv2 : M.less u (first + r) (first + (2 * r + 2))
          · have HF := Lib.hid (HE.out.trans (siftT_no hv2))
            have hC2 := fun w' hr => HL.out u w' (first + r) (first + (2 * r + 2)) (by omega) (by omega) hr (by rw [← HF.out]; exact H0.out.2)
            rw [hv2, show ((first + r : Nat) : Int) = (first : Int) + (r : Int) by omega, show ((first + (2 * r + 2) : Nat) : Int) = (first : Int) + (2 * (r : Int) + 1 + 1) by omega] at hC2
            have HC2 := Lib.hid hC2
            clear hv2 hC2
            go_wp2_with fail
            refine HC.out.mono ?_
            rintro e w1 ⟨rfl, hR1⟩
            have HR1 := Lib.hid hR1; clear hR1
            go_wp2_with fail
            refine (HC2.out _ HR1.out).mono ?_
            rintro e w2 ⟨rfl, hR2⟩
            have HR2 := Lib.hid hR2; clear hR2
            go_wp2_with fail
            go_end0
            exact ⟨rfl, by rw [HF.out]; exact HR2.out⟩
          · have HF := Lib.hid (HE.out.trans (siftT_yes hv2))
            have hokS : ok (M.swap (M.tick u (first + r) (first + (2 * r + 2))) (first + r) (first + (2 * r + 2))) := (way_siftD' hi first hf f ((2 * r + 2)) _).ok HG.out (by rw [← HF.out]; exact H0.out.2)
            have hC2 := fun w' hr => HL.out u w' (first + r) (first + (2 * r + 2)) (by omega) (by omega) hr (HG.out.swap _ _ _ hokS)
            have hS2 := fun w' hr => HS.out (M.tick u (first + r) (first + (2 * r + 2))) w' (first + r) (first + (2 * r + 2)) (by omega) (by omega) hr hokS
            rw [hv2, show ((first + r : Nat) : Int) = (first : Int) + (r : Int) by omega, show ((first + (2 * r + 2) : Nat) : Int) = (first : Int) + (2 * (r : Int) + 1 + 1) by omega] at hC2
            rw [show ((first + r : Nat) : Int) = (first : Int) + (r : Int) by omega, show ((first + (2 * r + 2) : Nat) : Int) = (first : Int) + (2 * (r : Int) + 1 + 1) by omega] at hS2
            have HC2 := Lib.hid hC2; have HS2 := Lib.hid hS2
            clear hv2 hC2 hS2 hokS
            go_wp2_with fail
            refine HC.out.mono ?_
            rintro e w1 ⟨rfl, hR1⟩
            have HR1 := Lib.hid hR1; clear hR1
            go_wp2_with fail
            refine (HC2.out _ HR1.out).mono ?_
            rintro e w2 ⟨rfl, hR2⟩
            have HR2 := Lib.hid hR2; clear hR2
            go_wp2_with fail
            refine (HS2.out _ HR2.out).mono ?_
            rintro e w3 ⟨rfl, hR3⟩
            have HR3 := Lib.hid hR3; clear hR3
            go_wp2_with fail
            go_roundw
            case rel => exact ⟨(2 * r + 2), f, _, by omega, by go_num, by omega, HR3.out, HF.out.symm⟩
            case measure => simp [intOf]; omega
      · have hz1 : ¬ ((2 : Int) * (r : Int) + 1 + 1 < (hi : Int)) := by omega
        have HE := Lib.hid (HI.out.2.symm.trans (siftD_o (by omega) hc1))
        cases hv2 : M.less t (first + r) (first + (2 * r + 1))
        · have HF := Lib.hid (HE.out.trans (siftT_no hv2))
          have hC2 := fun w' hr => HL.out t w' (first + r) (first + (2 * r + 1)) (by omega) (by omega) hr (by rw [← HF.out]; exact H0.out.2)
          rw [hv2, show ((first + r : Nat) : Int) = (first : Int) + (r : Int) by omega, show ((first + (2 * r + 1) : Nat) : Int) = (first : Int) + (2 * (r : Int) + 1) by omega] at hC2
          have HC2 := Lib.hid hC2
          clear hv2 hC2
          go_wp2_with fail
          refine (HC2.out _ HI.out.1).mono ?_
          rintro e w2 ⟨rfl, hR2⟩
          have HR2 := Lib.hid hR2; clear hR2
          go_wp2_with fail
          go_end0
          exact ⟨rfl, by rw [HF.out]; exact HR2.out⟩
        · have HF := Lib.hid (HE.out.trans (siftT_yes hv2))
          have hokS : ok (M.swap (M.tick t (first + r) (first + (2 * r + 1))) (first + r) (first + (2 * r + 1))) := (way_siftD' hi first hf f ((2 * r + 1)) _).ok HG.out (by rw [← HF.out]; exact H0.out.2)
          have hC2 := fun w' hr => HL.out t w' (first + r) (first + (2 * r + 1)) (by omega) (by omega) hr (HG.out.swap _ _ _ hokS)
          have hS2 := fun w' hr => HS.out (M.tick t (first + r) (first + (2 * r + 1))) w' (first + r) (first + (2 * r + 1)) (by omega) (by omega) hr hokS
          rw [hv2, show ((first + r : Nat) : Int) = (first : Int) + (r : Int) by omega, show ((first + (2 * r + 1) : Nat) : Int) = (first : Int) + (2 * (r : Int) + 1) by omega] at hC2
          rw [show ((first + r : Nat) : Int) = (first : Int) + (r : Int) by omega, show ((first + (2 * r + 1) : Nat) : Int) = (first : Int) + (2 * (r : Int) + 1) by omega] at hS2
          have HC2 := Lib.hid hC2; have HS2 := Lib.hid hS2
          clear hv2 hC2 hS2 hokS
          go_wp2_with fail
          refine (HC2.out _ HI.out.1).mono ?_
          rintro e w2 ⟨rfl, hR2⟩
          have HR2 := Lib.hid hR2; clear hR2
          go_wp2_with fail
          refine (HS2.out _ HR2.out).mono ?_
          rintro e w3 ⟨rfl, hR3⟩
          have HR3 := Lib.hid hR3; clear hR3
          go_wp2_with fail
          go_roundw
          case rel => exact ⟨(2 * r + 1), f, _, by omega, by go_num, by omega, HR3.out, HF.out.symm⟩
          case measure => simp [intOf]; omega

set_option maxHeartbeats 1000000 in
theorem reverseRangeI (H : IfaceS M ok R T rv gl gs n) (a b : Nat) (hab : a < b) (hb : b ≤ n) (s : σ) (w : World) (hR : R s w) (hok : ok (revR M a b s)) :
    Calls Try.prog 85 #[.iface T rv, .int .i64 a, .int .i64 b] w (Leaves R (revR M a b s)) := by
  have hn := H.hn
  have mS := H.mS
  have eS := H.eS
  have HS := Lib.hid H.swap
  have HG := Lib.hid H.guard
  have H0 := Lib.hid (And.intro hR hok)
  clear H hR hok
  go_enter Try.func85, Try.ntmps85
  go_wp2_with fail
  go_loopw [6, 7] (fun vi vj wr => ∃ (i j f : Nat) (t : σ), i ≤ n ∧ j < b ∧ j + 1 - i ≤ f ∧ vi = .int .i64 i ∧ vj = .int .i64 j ∧ Hid (R t wr ∧ revL M f i j t = revR M a b s)) (fun vi vj _ => (intOf vj).toNat + 1 - (intOf vi).toNat)
  case atStart => exact ⟨a, b - 1, b - a, s, by omega, by omega, by omega, rfl, by go_num, H0.out.1, rfl⟩
  case round =>
    obtain ⟨i, j, f, t, hi, hj, hf, rfl, rfl, HI⟩ := hrel
    by_cases hlt : i < j
    · obtain ⟨f, rfl⟩ : ∃ g, f = g + 1 := ⟨f - 1, by omega⟩
      have HE : Hid (revR M a b s = revL M f (i + 1) (j - 1) (M.swap t i j)) := Lib.hid (by
        have := HI.out.2
        unfold revL at this
        rw [if_pos hlt] at this
        exact this.symm)
      have hC := HS.out t wr i j (by omega) (by omega) HI.out.1 ((way_revL (n := n) f (i + 1) (j - 1) _ (by omega)).ok HG.out (by rw [← HE.out]; exact H0.out.2))
      have HC := Lib.hid hC; clear hC
      go_wp2_with fail
      refine HC.out.mono ?_
      rintro e w1 ⟨rfl, hR1⟩
      have HR1 := Lib.hid hR1; clear hR1
      go_wp2_with fail
      go_roundw
      case rel => exact ⟨i + 1, j - 1, f, _, by omega, by omega, by omega, by go_num, by go_num, HR1.out, HE.out.symm⟩
      case measure => simp [intOf]; omega
    · have HE : Hid (revR M a b s = t) := Lib.hid (by
        rw [← HI.out.2]
        cases f with
        | zero => rfl
        | succ f => show (if i < j then _ else _) = _; rw [if_neg hlt])
      go_wp2_with fail
      go_end0
      exact ⟨rfl, by rw [HE.out]; exact HI.out.1⟩

set_option maxRecDepth 100000 in
set_option maxHeartbeats 4000000 in
theorem heapSortI (H : IfaceS M ok R T rv gl gs n) (a b : Nat) (hab : a < b) (hb : b ≤ n) (s : σ) (w : World) (hR : R s w) (hok : ok (heapS M a b s)) :
    Calls Try.prog 82 #[.iface T rv, .int .i64 a, .int .i64 b] w (Leaves R (heapS M a b s)) := by
  have hn := H.hn
  have mS := H.mS
  have eS := H.eS
  have HS := Lib.hid H.swap
  have HG := Lib.hid H.guard
  have HSi := Lib.hid (fun lo hi f0 hf hlo hf0 t wr => siftDownI H lo hi a f0 hf hlo hf0 t wr)
  have hokB : ok (heapB M (b - a) a ((b - a - 1) / 2 + 1) s) := (way_heapP (n := n) a (b - a) (by omega) (b - a) _ (Nat.le_refl _)).ok HG.out hok
  have H0 := Lib.hid (And.intro hR (And.intro hok hokB))
  have HCm : Hid (((b - a : Nat) : Int) = (b : Int) - (a : Int)) := Lib.hid (by omega)
  clear H hR hok hokB
  go_enter Try.func82, Try.ntmps82
  go_wp2_with fail
  go_loopg [9] ((b - a - 1) / 2 + 1) (fun k vi wr => ∃ (t : σ), k ≤ (b - a - 1) / 2 + 1 ∧ vi = .int .i64 ((k : Int) - 1) ∧ Hid (R t wr ∧ heapB M (b - a) a k t = heapB M (b - a) a ((b - a - 1) / 2 + 1) s))
  case atStart => exact ⟨s, Nat.le_refl _, by go_num, H0.out.1, rfl⟩
  case round =>
    obtain ⟨t, hk, rfl, HI⟩ := hrel
    cases gk with
    | succ k =>
      have hkz : (((k + 1 : Nat) : Int) - 1) = (k : Int) := by omega
      rw [hkz]
      have hge : (k : Int) ≥ 0 := by omega
      have HE : Hid (heapB M (b - a) a k (siftD M (b - a) a (b - a) k t) = heapB M (b - a) a ((b - a - 1) / 2 + 1) s) := Lib.hid HI.out.2
      have hC := HSi.out k (b - a) (b - a) (by omega) (by omega) (by omega) t wr HI.out.1 ((way_heapB (n := n) (b - a) a (by omega) k _).ok HG.out (by rw [HE.out]; exact H0.out.2.2))
      rw [HCm.out] at hC
      have HC := Lib.hid hC; clear hC hkz
      go_wp2_with fail
      refine HC.out.mono ?_
      rintro e w1 ⟨rfl, hR1⟩
      have HR1 := Lib.hid hR1; clear hR1
      go_wp2_with fail
      go_roundg k
      case rel => exact ⟨_, by omega, by go_num, HR1.out, HE.out⟩
      case measure => omega
    | zero =>
      have HE : Hid (t = heapB M (b - a) a ((b - a - 1) / 2 + 1) s) := Lib.hid HI.out.2
      go_wp2_with fail
      go_loopg [10] (b - a) (fun k vi wr => ∃ (t : σ), k ≤ b - a ∧ vi = .int .i64 ((k : Int) - 1) ∧ Hid (R t wr ∧ heapP M a k t = heapS M a b s))
      case atStart => exact ⟨t, Nat.le_refl _, by go_num, HI.out.1, by rw [HE.out]; rfl⟩
      case round =>
        clear HI HE
        obtain ⟨t, hk, rfl, HI⟩ := hrel
        cases gk with
        | succ k =>
          have hkz : (((k + 1 : Nat) : Int) - 1) = (k : Int) := by omega
          rw [hkz]
          have hge : (k : Int) ≥ 0 := by omega
          have HE : Hid (heapP M a k (siftD M k a k 0 (M.swap t a (a + k))) = heapS M a b s) := Lib.hid HI.out.2
          have hokD : ok (siftD M k a k 0 (M.swap t a (a + k))) := (way_heapP (n := n) a (b - a) (by omega) k _ (by omega)).ok HG.out (by rw [HE.out]; exact H0.out.2.1)
          have hC := fun w' hr => HSi.out 0 k k (by omega) (by omega) (by omega) (M.swap t a (a + k)) w' hr hokD
          have hS := HS.out t wr a (a + k) (by omega) (by omega) HI.out.1 ((way_siftD' (n := n) k a (by omega) k 0 _).ok HG.out hokD)
          rw [Int.natCast_add] at hS
          have HC := Lib.hid hC; have HS1 := Lib.hid hS; clear hC hkz hS hokD
          go_wp2_with fail
          refine HS1.out.mono ?_
          rintro e w1 ⟨rfl, hR1⟩
          have HR1 := Lib.hid hR1; clear hR1
          go_wp2_with fail
          refine (HC.out _ HR1.out).mono ?_
          rintro e w2 ⟨rfl, hR2⟩
          have HR2 := Lib.hid hR2; clear hR2
          go_wp2_with fail
          go_roundg k
          case rel => exact ⟨_, by omega, by go_num, HR2.out, HE.out⟩
          case measure => omega
        | zero =>
          have HE : Hid (t = heapS M a b s) := Lib.hid HI.out.2
          go_wp2_with fail
          go_end0
          exact ⟨rfl, by rw [← HE.out]; exact HI.out.1⟩
end
end Go.Proofs.Ytjammaglboehcaa
