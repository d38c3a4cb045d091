/-
  The walk of sort's symMerge at an interface.
-/
import Derived.Test.YtjammaglboehcaaStI
namespace Go.Proofs.Ytjammaglboehcaa
open Go.RowKit Go.Proofs
set_option linter.unusedVariables false

theorem halfS (lo hi : Nat) (h2 : lo + hi < 9223372036854775808) : wrap64 (IntKind.u64.wrap (wrap64 ((lo : Int) + (hi : Int))) / 2) = (((lo + hi) / 2 : Nat) : Int) := by
  rw [IntKind.wrap_u64]
  unfold wrap64
  omega

section
variable {σ : Type} {M : Mach σ} {ok : σ → Prop} {R : σ → World → Prop} {T : TypeId} {rv : Value} {gl gs n : Nat}

set_option maxRecDepth 100000 in
set_option maxHeartbeats 4000000 in
theorem symMergeI1 (H : IfaceS M ok R T rv gl gs n) (f a m b : Nat) (ham : m = a + 1) (hmb : m < b) (hb : b ≤ n) (s : σ) (w : World) (hR : R s w) (hok : ok (symM M (f + 1) a m b s)) :
    Calls Try.prog 90 #[.iface T rv, .int .i64 a, .int .i64 m, .int .i64 b] w (Leaves R (symM M (f + 1) a m b s)) := by
  have hn := H.hn
  have mS := H.mS
  have eS := H.eS
  have mL := H.mL
  have eL := H.eL
  have HS := Lib.hid H.swap
  have HL := Lib.hid H.less
  have HG := Lib.hid H.guard
  have hd1 : ((m : Int) - (a : Int) == 1) = true := by simp; omega
  have hd2 : (m : Int) - (a : Int) = 1 := by omega
  have hsy : symM M (f + 1) a m b s = swapR M a (a + 1) ((bsr M (fun h => h) (fun _ => a) true m b s).1 - 1 - a) 0 (bsr M (fun h => h) (fun _ => a) true m b s).2 := by
    show (if m - a = 1 then _ else _) = _
    rw [if_pos (by omega)]
  rw [hsy] at hok ⊢
  have HK := Lib.hid (ok_swapR HG.out _ _ _ _ _ hok)
  have H0 := Lib.hid (And.intro hR hok)
  have hlo : a < m ∧ m ≤ a + 1 := by omega
  clear H hR hok hsy ham
  go_enter Try.func90, Try.ntmps90
  go_wp2_with fail
  go_loopw [8, 9] (fun vi vj wr => ∃ (i j fu : Nat) (t : σ), m ≤ i ∧ i ≤ j ∧ j ≤ b ∧ vi = .int .i64 i ∧ vj = .int .i64 j ∧ j - i ≤ fu ∧ Hid (R t wr ∧ bsL M (fun h => h) (fun _ => a) true fu i j t = bsr M (fun h => h) (fun _ => a) true m b s)) (fun vi vj _ => (intOf vj).toNat - (intOf vi).toNat)
  case atStart => exact ⟨m, b, b - m, s, Nat.le_refl _, by omega, Nat.le_refl _, by go_num, by go_num, Nat.le_refl _, H0.out.1, rfl⟩
  case round =>
    obtain ⟨i, j, fu, t, hi, hij, hj, rfl, rfl, hfu, HI⟩ := hrel
    by_cases hlt : i < j
    · obtain ⟨fu, rfl⟩ : ∃ g, fu = g + 1 := ⟨fu - 1, by omega⟩
      have hm : i ≤ (i + j) / 2 ∧ (i + j) / 2 < j := by omega
      cases hv0 : M.less t ((i + j) / 2) a
      · skip
        have hv := hv0
        have HE := Lib.hid (HI.out.2.symm.trans (bsL_dn hlt (by rw [hv]; simp))); clear hv0
        have hC := HL.out t wr (((i + j) / 2)) (a) (by omega) (by omega) HI.out.1 (ok_bsL HG.out _ _ _ _ _ _ _ (by rw [← HE.out]; exact HK.out))
        rw [hv] at hC
        have HC := Lib.hid hC; clear hC hv
        go_wp2_with fail
        rw [show ((i : Int) + (j : Int)) / 2 = (((i + j) / 2 : Nat) : Int) by omega]
        refine HC.out.mono ?_
        rintro e w1 ⟨rfl, hR1⟩
        have HR1 := Lib.hid hR1; clear hR1
        go_wp2_with fail
        go_roundw
        case rel => exact ⟨i, (i + j) / 2, fu, _, hi, by omega, by omega, rfl, rfl, by omega, HR1.out, HE.out.symm⟩
        case measure => simp [intOf]; omega
      · skip
        have hv := hv0
        have HE := Lib.hid (HI.out.2.symm.trans (bsL_up hlt hv)); clear hv0
        have hC := HL.out t wr (((i + j) / 2)) (a) (by omega) (by omega) HI.out.1 (ok_bsL HG.out _ _ _ _ _ _ _ (by rw [← HE.out]; exact HK.out))
        rw [hv] at hC
        have HC := Lib.hid hC; clear hC hv
        go_wp2_with fail
        rw [show ((i : Int) + (j : Int)) / 2 = (((i + j) / 2 : Nat) : Int) by omega]
        refine HC.out.mono ?_
        rintro e w1 ⟨rfl, hR1⟩
        have HR1 := Lib.hid hR1; clear hR1
        go_wp2_with fail
        go_roundw
        case rel => exact ⟨(i + j) / 2 + 1, j, fu, _, by omega, by omega, hj, by go_num, rfl, by omega, HR1.out, HE.out.symm⟩
        case measure => simp [intOf]; omega
    · obtain rfl : i = j := by omega
      have HE := Lib.hid (HI.out.2.symm.trans (bsL_stop (by omega))); clear hlt
      have HF : Hid (swapR M a (a + 1) ((bsr M (fun h => h) (fun _ => a) true m b s).1 - 1 - a) 0 (bsr M (fun h => h) (fun _ => a) true m b s).2 = swapR M a (a + 1) (i - 1 - a) 0 t) := Lib.hid (by rw [HE.out])
      have HO : Hid (ok (swapR M a (a + 1) (i - 1 - a) 0 t)) := Lib.hid (by rw [← HF.out]; exact H0.out.2)
      go_wp2_with fail
      go_loopw [11] (fun vk wr => ∃ (k : Nat) (u : σ), a ≤ k ∧ k ≤ i - 1 ∧ vk = .int .i64 k ∧ Hid (R u wr ∧ swapR M a (a + 1) (i - 1 - k) (k - a) u = swapR M a (a + 1) (i - 1 - a) 0 t)) (fun vk _ => i - (intOf vk).toNat)
      case atStart => exact ⟨a, t, Nat.le_refl _, by omega, rfl, HI.out.1, by rw [Nat.sub_self]⟩
      case round =>
        obtain ⟨k, u, hak, hki, rfl, HJ⟩ := hrel
        by_cases hlt : k < i - 1
        · have hlz : (k : Int) < (i : Int) - 1 := by omega
          have HN : Hid (swapR M a (a + 1) (i - 1 - (k + 1)) (k + 1 - a) (M.swap u k (k + 1)) = swapR M a (a + 1) (i - 1 - a) 0 t) := Lib.hid (by
            have := HJ.out.2
            rw [show i - 1 - k = (i - 1 - (k + 1)) + 1 by omega] at this
            rw [← this, show k + 1 - a = (k - a) + 1 by omega]
            show _ = swapR M a (a + 1) (i - 1 - (k + 1)) (k - a + 1) (M.swap u (a + (k - a)) (a + 1 + (k - a)))
            rw [show a + (k - a) = k by omega, show a + 1 + (k - a) = k + 1 by omega])
          have hC := HS.out u wr k (k + 1) (by omega) (by omega) HJ.out.1 (ok_swapR HG.out _ _ _ _ _ (by rw [HN.out]; exact HO.out))
          rw [Int.natCast_add, Int.natCast_one] at hC
          have HC := Lib.hid hC; clear hC
          go_wp2_with fail
          refine HC.out.mono ?_
          rintro e w1 ⟨rfl, hR1⟩
          have HR1 := Lib.hid hR1; clear hR1
          go_wp2_with fail
          go_roundw
          case rel => exact ⟨k + 1, _, by omega, by omega, by go_num, HR1.out, HN.out⟩
          case measure => simp [intOf]; omega
        · have hlz : ¬ ((k : Int) < (i : Int) - 1) := by omega
          go_wp2_with fail
          go_end0
          exact ⟨rfl, by
            have := HJ.out.2
            rw [show i - 1 - k = 0 by omega] at this
            rw [HF.out, ← this]; exact HJ.out.1⟩

set_option maxRecDepth 100000 in
set_option maxHeartbeats 4000000 in
theorem symMergeI2 (H : IfaceS M ok R T rv gl gs n) (f a m b : Nat) (ham : a + 1 < m) (hmb : b = m + 1) (hb : b ≤ n) (s : σ) (w : World) (hR : R s w) (hok : ok (symM M (f + 1) a m b s)) :
    Calls Try.prog 90 #[.iface T rv, .int .i64 a, .int .i64 m, .int .i64 b] w (Leaves R (symM M (f + 1) a m b s)) := by
  have hn := H.hn
  have mS := H.mS
  have eS := H.eS
  have mL := H.mL
  have eL := H.eL
  have HS := Lib.hid H.swap
  have HL := Lib.hid H.less
  have HG := Lib.hid H.guard
  have hd1 : ((m : Int) - (a : Int) == 1) = false := by simp; omega
  have hd2 : ((b : Int) - (m : Int) == 1) = true := by simp; omega
  have hd3 : ¬ ((m : Int) - (a : Int) = 1) := by omega
  have hd4 : (b : Int) - (m : Int) = 1 := by omega
  have hsy : symM M (f + 1) a m b s = swapDn M (m - (bsr M (fun _ => m) (fun h => h) false a m s).1) m (bsr M (fun _ => m) (fun h => h) false a m s).2 := by
    show (if m - a = 1 then _ else if b - m = 1 then _ else _) = _
    rw [if_neg (by omega), if_pos (by omega)]
  rw [hsy] at hok ⊢
  have HK := Lib.hid (ok_swapDn HG.out _ _ _ hok)
  have H0 := Lib.hid (And.intro hR hok)
  have hlo : m < b ∧ b ≤ m + 1 := by omega
  clear H hR hok hsy hmb
  go_enter Try.func90, Try.ntmps90
  go_wp2_with fail
  go_loopw [12, 13] (fun vi vj wr => ∃ (i j fu : Nat) (t : σ), a ≤ i ∧ i ≤ j ∧ j ≤ m ∧ vi = .int .i64 i ∧ vj = .int .i64 j ∧ j - i ≤ fu ∧ Hid (R t wr ∧ bsL M (fun _ => m) (fun h => h) false fu i j t = bsr M (fun _ => m) (fun h => h) false a m s)) (fun vi vj _ => (intOf vj).toNat - (intOf vi).toNat)
  case atStart => exact ⟨a, m, m - a, s, Nat.le_refl _, by omega, Nat.le_refl _, by go_num, by go_num, Nat.le_refl _, H0.out.1, rfl⟩
  case round =>
    obtain ⟨i, j, fu, t, hi, hij, hj, rfl, rfl, hfu, HI⟩ := hrel
    by_cases hlt : i < j
    · obtain ⟨fu, rfl⟩ : ∃ g, fu = g + 1 := ⟨fu - 1, by omega⟩
      have hm : i ≤ (i + j) / 2 ∧ (i + j) / 2 < j := by omega
      cases hv0 : M.less t m ((i + j) / 2)
      · skip
        have hv := hv0
        have HE := Lib.hid (HI.out.2.symm.trans (bsL_up hlt hv)); clear hv0
        have hC := HL.out t wr (m) (((i + j) / 2)) (by omega) (by omega) HI.out.1 (ok_bsL HG.out _ _ _ _ _ _ _ (by rw [← HE.out]; exact HK.out))
        rw [hv] at hC
        have HC := Lib.hid hC; clear hC hv
        go_wp2_with fail
        rw [show ((i : Int) + (j : Int)) / 2 = (((i + j) / 2 : Nat) : Int) by omega]
        refine HC.out.mono ?_
        rintro e w1 ⟨rfl, hR1⟩
        have HR1 := Lib.hid hR1; clear hR1
        go_wp2_with fail
        go_roundw
        case rel => exact ⟨(i + j) / 2 + 1, j, fu, _, by omega, by omega, hj, by go_num, rfl, by omega, HR1.out, HE.out.symm⟩
        case measure => simp [intOf]; omega
      · skip
        have hv := hv0
        have HE := Lib.hid (HI.out.2.symm.trans (bsL_dn hlt (by rw [hv]; simp))); clear hv0
        have hC := HL.out t wr (m) (((i + j) / 2)) (by omega) (by omega) HI.out.1 (ok_bsL HG.out _ _ _ _ _ _ _ (by rw [← HE.out]; exact HK.out))
        rw [hv] at hC
        have HC := Lib.hid hC; clear hC hv
        go_wp2_with fail
        rw [show ((i : Int) + (j : Int)) / 2 = (((i + j) / 2 : Nat) : Int) by omega]
        refine HC.out.mono ?_
        rintro e w1 ⟨rfl, hR1⟩
        have HR1 := Lib.hid hR1; clear hR1
        go_wp2_with fail
        go_roundw
        case rel => exact ⟨i, (i + j) / 2, fu, _, hi, by omega, by omega, rfl, rfl, by omega, HR1.out, HE.out.symm⟩
        case measure => simp [intOf]; omega
    · obtain rfl : i = j := by omega
      have HE := Lib.hid (HI.out.2.symm.trans (bsL_stop (by omega))); clear hlt
      have HF : Hid (swapDn M (m - (bsr M (fun _ => m) (fun h => h) false a m s).1) m (bsr M (fun _ => m) (fun h => h) false a m s).2 = swapDn M (m - i) m t) := Lib.hid (by rw [HE.out])
      have HO : Hid (ok (swapDn M (m - i) m t)) := Lib.hid (by rw [← HF.out]; exact H0.out.2)
      go_wp2_with fail
      go_loopw [15] (fun vk wr => ∃ (k : Nat) (u : σ), i ≤ k ∧ k ≤ m ∧ vk = .int .i64 k ∧ Hid (R u wr ∧ swapDn M (k - i) k u = swapDn M (m - i) m t)) (fun vk _ => (intOf vk).toNat)
      case atStart => exact ⟨m, t, by omega, Nat.le_refl _, rfl, HI.out.1, rfl⟩
      case round =>
        obtain ⟨k, u, hik, hkm, rfl, HJ⟩ := hrel
        by_cases hlt : i < k
        · obtain ⟨k, rfl⟩ : ∃ x, k = x + 1 := ⟨k - 1, by omega⟩
          have HN : Hid (swapDn M (k - i) k (M.swap u (k + 1) k) = swapDn M (m - i) m t) := Lib.hid (by
            have := HJ.out.2
            rw [show k + 1 - i = (k - i) + 1 by omega] at this
            exact this)
          have hC := HS.out u wr (k + 1) k (by omega) (by omega) HJ.out.1 (ok_swapDn HG.out _ _ _ (by rw [HN.out]; exact HO.out))
          have hck : ((k : Nat) : Int) = ((k + 1 : Nat) : Int) - 1 := by omega
          rw [hck] at hC
          have hgz : ((k + 1 : Nat) : Int) > (i : Int) := by omega
          have HC := Lib.hid hC; have HKc := Lib.hid hck; clear hC hck
          generalize hk1 : k + 1 = k1 at *
          go_wp2_with fail
          refine HC.out.mono ?_
          rintro e w1 ⟨rfl, hR1⟩
          have HR1 := Lib.hid hR1; clear hR1
          go_wp2_with fail
          go_roundw
          case rel => exact ⟨k, _, by omega, by omega, by rw [HKc.out], HR1.out, HN.out⟩
          case measure => simp [intOf]; omega
        · have hgz : ¬ ((k : Int) > (i : Int)) := by omega
          go_wp2_with fail
          go_end0
          exact ⟨rfl, by
            have := HJ.out.2
            rw [show k - i = 0 by omega] at this
            rw [HF.out, ← this]; exact HJ.out.1⟩
end
end Go.Proofs.Ytjammaglboehcaa
