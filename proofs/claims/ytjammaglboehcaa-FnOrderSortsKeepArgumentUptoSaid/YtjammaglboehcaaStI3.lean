/-
  The walk of sort's symMerge at an interface, where there are more on both sides.
-/
import Derived.Test.YtjammaglboehcaaStI2
namespace Go.Proofs.Ytjammaglboehcaa
open Go.RowKit Go.Proofs
set_option linter.unusedVariables false

section
variable {σ : Type} {M : Mach σ} {ok : σ → Prop} {R : σ → World → Prop} {T : TypeId} {rv : Value} {gl gs n : Nat}


set_option maxRecDepth 100000 in
set_option maxHeartbeats 8000000 in
theorem symMergeI3b (H : IfaceS M ok R T rv gl gs n) (f a m b : Nat) (ham : a + 1 < m) (hmb : m + 1 < b) (hb : b ≤ n) (hcd : (a + b) / 2 < m) (s : σ) (w : World) (hR : R s w) (hok : ok (symM M (f + 1) a m b s))
    (IH : ∀ (a m b : Nat) (s : σ) (w : World), a < m → m < b → b ≤ n → b - a ≤ f → R s w → ok (symM M f a m b s) → Calls Try.prog 90 #[.iface T rv, .int .i64 a, .int .i64 m, .int .i64 b] w (Leaves R (symM M f a m b s))) (hf : b - a ≤ f + 1) :
    Calls Try.prog 90 #[.iface T rv, .int .i64 a, .int .i64 m, .int .i64 b] w (Leaves R (symM M (f + 1) a m b s)) := by
  have hn := H.hn
  have mS := H.mS
  have eS := H.eS
  have mL := H.mL
  have eL := H.eL
  have HS := Lib.hid H.swap
  have HL := Lib.hid H.less
  have HG := Lib.hid H.guard
  have HIH := Lib.hid IH; clear IH
  have HRo := Lib.hid (fun a m b ha hm hb t wr => rotateI H a m b ha hm hb t wr)
  have hd1 : ((m : Int) - (a : Int) == 1) = false := by simp; omega
  have hd2 : ((b : Int) - (m : Int) == 1) = false := by simp; omega
  have hd3 : ¬ ((m : Int) - (a : Int) = 1) := by omega
  have hd4 : ¬ ((b : Int) - (m : Int) = 1) := by omega
  generalize hmid : (a + b) / 2 = mid at *
  have hmz : ((a : Int) + (b : Int)) / 2 = (mid : Int) := by omega
  have hd5 : (m : Int) > (mid : Int) := by omega
  have hst : symMStart M a m b s = bsr M (fun c => mid + m - 1 - c) (fun c => c) false (mid + m - b) (mid) s := by
    unfold symMStart
    rw [hmid, if_pos hcd]
  have hsy : symM M (f + 1) a m b s = symTail M f a m b mid (bsr M (fun c => mid + m - 1 - c) (fun c => c) false (mid + m - b) (mid) s).1 (bsr M (fun c => mid + m - 1 - c) (fun c => c) false (mid + m - b) (mid) s).2 := by
    show (if m - a = 1 then _ else if b - m = 1 then _ else _) = _
    rw [if_neg (by omega), if_neg (by omega), ← hst, ← hmid]
    rfl
  rw [hsy] at hok ⊢
  have HK := Lib.hid (ok_symTail HG.out _ _ _ _ _ _ _ hok)
  have H0 := Lib.hid (And.intro hR hok)
  have hlo : a < mid ∧ mid < b ∧ 2 * mid ≤ a + b ∧ a + b ≤ 2 * mid + 1 := by omega
  clear H hR hok hsy hst hmid
  go_enter Try.func90, Try.ntmps90
  go_wp2_with fail
  go_loopw [18, 19] (fun vi vj wr => ∃ (i j fu : Nat) (t : σ), (mid + m - b) ≤ i ∧ i ≤ j ∧ j ≤ (mid) ∧ vi = .int .i64 i ∧ vj = .int .i64 j ∧ j - i ≤ fu ∧ Hid (R t wr ∧ bsL M (fun c => mid + m - 1 - c) (fun c => c) false fu i j t = bsr M (fun c => mid + m - 1 - c) (fun c => c) false (mid + m - b) (mid) s)) (fun vi vj _ => (intOf vj).toNat - (intOf vi).toNat)
  case atStart => exact ⟨(mid + m - b), (mid), (mid) - (mid + m - b), s, Nat.le_refl _, by omega, Nat.le_refl _, by go_num, by go_num, Nat.le_refl _, H0.out.1, rfl⟩
  case round =>
    obtain ⟨i, j, fu, t, hi, hij, hj, rfl, rfl, hfu, HI⟩ := hrel
    by_cases hlt : i < j
    · obtain ⟨fu, rfl⟩ : ∃ g, fu = g + 1 := ⟨fu - 1, by omega⟩
      have hm : i ≤ (i + j) / 2 ∧ (i + j) / 2 < j := by omega
      cases hv0 : M.less t (mid + m - 1 - (i + j) / 2) ((i + j) / 2)
      · skip
        have hv := hv0
        have HE := Lib.hid (HI.out.2.symm.trans (bsL_up hlt hv)); clear hv0
        have hC := HL.out t wr ((mid + m - 1 - (i + j) / 2)) (((i + j) / 2)) (by omega) (by omega) HI.out.1 (ok_bsL HG.out _ _ _ _ _ _ _ (by rw [← HE.out]; exact HK.out))
        rw [hv] at hC
        rw [show ((mid + m - 1 - (i + j) / 2 : Nat) : Int) = (mid : Int) + (m : Int) - 1 - (((i + j) / 2 : Nat) : Int) by omega] at hC
        have HC := Lib.hid hC; clear hC hv
        go_wp2_with fail
        rw [show ((i : Int) + (j : Int)) / 2 = (((i + j) / 2 : Nat) : Int) by omega]
        refine HC.out.mono ?_
        rintro e w1 ⟨rfl, hR1⟩
        have HR1 := Lib.hid hR1; clear hR1
        go_wp2_with fail
        go_roundw
        case rel => exact ⟨(i + j) / 2 + 1, j, fu, _, by omega, by omega, hj, by go_num, rfl, by omega, HR1.out, HE.out.symm⟩
        case measure => simp [intOf]; omega
      · skip
        have hv := hv0
        have HE := Lib.hid (HI.out.2.symm.trans (bsL_dn hlt (by rw [hv]; simp))); clear hv0
        have hC := HL.out t wr ((mid + m - 1 - (i + j) / 2)) (((i + j) / 2)) (by omega) (by omega) HI.out.1 (ok_bsL HG.out _ _ _ _ _ _ _ (by rw [← HE.out]; exact HK.out))
        rw [hv] at hC
        rw [show ((mid + m - 1 - (i + j) / 2 : Nat) : Int) = (mid : Int) + (m : Int) - 1 - (((i + j) / 2 : Nat) : Int) by omega] at hC
        have HC := Lib.hid hC; clear hC hv
        go_wp2_with fail
        rw [show ((i : Int) + (j : Int)) / 2 = (((i + j) / 2 : Nat) : Int) by omega]
        refine HC.out.mono ?_
        rintro e w1 ⟨rfl, hR1⟩
        have HR1 := Lib.hid hR1; clear hR1
        go_wp2_with fail
        go_roundw
        case rel => exact ⟨i, (i + j) / 2, fu, _, hi, by omega, by omega, rfl, rfl, by omega, HR1.out, HE.out.symm⟩
        case measure => simp [intOf]; omega
    · obtain rfl : i = j := by omega
      have HE := Lib.hid (HI.out.2.symm.trans (bsL_stop (by omega))); clear hlt
      obtain ⟨e, heN⟩ : ∃ e : Nat, mid + m - i = e := ⟨_, rfl⟩
      have hez : (mid : Int) + (m : Int) - (i : Int) = (e : Int) := by omega
      have hee : e + i = mid + m := by omega
      have HeN := Lib.hid heN; clear heN
      by_cases him : i < mid
      · by_cases hai : a < i
        · by_cases heb : e < b
          · skip
            have hq00 : (i : Int) < (m : Int) := by omega
            have hq01 : (m : Int) < (e : Int) := by omega
            have hq10 : (a : Int) < (i : Int) := by omega
            have hq11 : (i : Int) < (mid : Int) := by omega
            have hq20 : (mid : Int) < (e : Int) := by omega
            have hq21 : (e : Int) < (b : Int) := by omega
            have HT : Hid (symTail M f a m b mid (bsr M (fun c => mid + m - 1 - c) (fun c => c) false (mid + m - b) (mid) s).1 (bsr M (fun c => mid + m - 1 - c) (fun c => c) false (mid + m - b) (mid) s).2 = symM M f mid e b (symM M f a i mid (rotate M i m e t))) := Lib.hid (by
              rw [HE.out]
              unfold symTail
              dsimp only
              rw [HeN.out, if_pos (show i < m ∧ m < e by omega), if_pos (show a < i ∧ i < mid by omega), if_pos (show mid < e ∧ e < b by omega)])
            have HO : Hid (ok (symM M f mid e b (symM M f a i mid (rotate M i m e t)))) := Lib.hid (by rw [← HT.out]; exact H0.out.2)
            go_wp2_with fail
            refine (HRo.out i m e (by omega) (by omega) (by omega) _ _ HI.out.1 (ok_symM HG.out f _ _ _ _ (ok_symM HG.out f _ _ _ _ (HO.out)))).mono ?_
            rintro ed v1 ⟨rfl, hr1⟩
            have V1 := Lib.hid hr1; clear hr1
            go_wp2_with fail
            refine (HIH.out a i mid _ _ (by omega) (by omega) (by omega) (by omega) V1.out (ok_symM HG.out f _ _ _ _ (HO.out))).mono ?_
            rintro ed v2 ⟨rfl, hr2⟩
            have V2 := Lib.hid hr2; clear hr2
            go_wp2_with fail
            refine (HIH.out mid e b _ _ (by omega) (by omega) (by omega) (by omega) V2.out (HO.out)).mono ?_
            rintro ed v3 ⟨rfl, hr3⟩
            have V3 := Lib.hid hr3; clear hr3
            go_wp2_with fail
            go_end0
            exact ⟨rfl, by rw [HT.out]; exact V3.out⟩
          · skip
            have hq00 : (i : Int) < (m : Int) := by omega
            have hq01 : (m : Int) < (e : Int) := by omega
            have hq10 : (a : Int) < (i : Int) := by omega
            have hq11 : (i : Int) < (mid : Int) := by omega
            have hq20 : (mid : Int) < (e : Int) := by omega
            have hq21 : ¬ ((e : Int) < (b : Int)) := by omega
            have HT : Hid (symTail M f a m b mid (bsr M (fun c => mid + m - 1 - c) (fun c => c) false (mid + m - b) (mid) s).1 (bsr M (fun c => mid + m - 1 - c) (fun c => c) false (mid + m - b) (mid) s).2 = symM M f a i mid (rotate M i m e t)) := Lib.hid (by
              rw [HE.out]
              unfold symTail
              dsimp only
              rw [HeN.out, if_pos (show i < m ∧ m < e by omega), if_pos (show a < i ∧ i < mid by omega), if_neg (show ¬ (mid < e ∧ e < b) by omega)])
            have HO : Hid (ok (symM M f a i mid (rotate M i m e t))) := Lib.hid (by rw [← HT.out]; exact H0.out.2)
            go_wp2_with fail
            refine (HRo.out i m e (by omega) (by omega) (by omega) _ _ HI.out.1 (ok_symM HG.out f _ _ _ _ (HO.out))).mono ?_
            rintro ed v1 ⟨rfl, hr1⟩
            have V1 := Lib.hid hr1; clear hr1
            go_wp2_with fail
            refine (HIH.out a i mid _ _ (by omega) (by omega) (by omega) (by omega) V1.out (HO.out)).mono ?_
            rintro ed v2 ⟨rfl, hr2⟩
            have V2 := Lib.hid hr2; clear hr2
            go_wp2_with fail
            go_end0
            exact ⟨rfl, by rw [HT.out]; exact V2.out⟩
        · by_cases heb : e < b
          · skip
            have hq00 : (i : Int) < (m : Int) := by omega
            have hq01 : (m : Int) < (e : Int) := by omega
            have hq10 : ¬ ((a : Int) < (i : Int)) := by omega
            have hq20 : (mid : Int) < (e : Int) := by omega
            have hq21 : (e : Int) < (b : Int) := by omega
            have HT : Hid (symTail M f a m b mid (bsr M (fun c => mid + m - 1 - c) (fun c => c) false (mid + m - b) (mid) s).1 (bsr M (fun c => mid + m - 1 - c) (fun c => c) false (mid + m - b) (mid) s).2 = symM M f mid e b (rotate M i m e t)) := Lib.hid (by
              rw [HE.out]
              unfold symTail
              dsimp only
              rw [HeN.out, if_pos (show i < m ∧ m < e by omega), if_neg (show ¬ (a < i ∧ i < mid) by omega), if_pos (show mid < e ∧ e < b by omega)])
            have HO : Hid (ok (symM M f mid e b (rotate M i m e t))) := Lib.hid (by rw [← HT.out]; exact H0.out.2)
            go_wp2_with fail
            refine (HRo.out i m e (by omega) (by omega) (by omega) _ _ HI.out.1 (ok_symM HG.out f _ _ _ _ (HO.out))).mono ?_
            rintro ed v1 ⟨rfl, hr1⟩
            have V1 := Lib.hid hr1; clear hr1
            go_wp2_with fail
            refine (HIH.out mid e b _ _ (by omega) (by omega) (by omega) (by omega) V1.out (HO.out)).mono ?_
            rintro ed v2 ⟨rfl, hr2⟩
            have V2 := Lib.hid hr2; clear hr2
            go_wp2_with fail
            go_end0
            exact ⟨rfl, by rw [HT.out]; exact V2.out⟩
          · skip
            have hq00 : (i : Int) < (m : Int) := by omega
            have hq01 : (m : Int) < (e : Int) := by omega
            have hq10 : ¬ ((a : Int) < (i : Int)) := by omega
            have hq20 : (mid : Int) < (e : Int) := by omega
            have hq21 : ¬ ((e : Int) < (b : Int)) := by omega
            have HT : Hid (symTail M f a m b mid (bsr M (fun c => mid + m - 1 - c) (fun c => c) false (mid + m - b) (mid) s).1 (bsr M (fun c => mid + m - 1 - c) (fun c => c) false (mid + m - b) (mid) s).2 = rotate M i m e t) := Lib.hid (by
              rw [HE.out]
              unfold symTail
              dsimp only
              rw [HeN.out, if_pos (show i < m ∧ m < e by omega), if_neg (show ¬ (a < i ∧ i < mid) by omega), if_neg (show ¬ (mid < e ∧ e < b) by omega)])
            have HO : Hid (ok (rotate M i m e t)) := Lib.hid (by rw [← HT.out]; exact H0.out.2)
            go_wp2_with fail
            refine (HRo.out i m e (by omega) (by omega) (by omega) _ _ HI.out.1 (HO.out)).mono ?_
            rintro ed v1 ⟨rfl, hr1⟩
            have V1 := Lib.hid hr1; clear hr1
            go_wp2_with fail
            go_end0
            exact ⟨rfl, by rw [HT.out]; exact V1.out⟩
      · skip
        have hq00 : (i : Int) < (m : Int) := by omega
        have hq01 : ¬ ((m : Int) < (e : Int)) := by omega
        have hq10 : (a : Int) < (i : Int) := by omega
        have hq11 : ¬ ((i : Int) < (mid : Int)) := by omega
        have hq20 : (mid : Int) < (e : Int) := by omega
        have hq21 : (e : Int) < (b : Int) := by omega
        have HT : Hid (symTail M f a m b mid (bsr M (fun c => mid + m - 1 - c) (fun c => c) false (mid + m - b) (mid) s).1 (bsr M (fun c => mid + m - 1 - c) (fun c => c) false (mid + m - b) (mid) s).2 = symM M f mid e b (t)) := Lib.hid (by
          rw [HE.out]
          unfold symTail
          dsimp only
          rw [HeN.out, if_neg (show ¬ (i < m ∧ m < e) by omega), if_neg (show ¬ (a < i ∧ i < mid) by omega), if_pos (show mid < e ∧ e < b by omega)])
        have HO : Hid (ok (symM M f mid e b (t))) := Lib.hid (by rw [← HT.out]; exact H0.out.2)
        go_wp2_with fail
        refine (HIH.out mid e b _ _ (by omega) (by omega) (by omega) (by omega) HI.out.1 (HO.out)).mono ?_
        rintro ed v1 ⟨rfl, hr1⟩
        have V1 := Lib.hid hr1; clear hr1
        go_wp2_with fail
        go_end0
        exact ⟨rfl, by rw [HT.out]; exact V1.out⟩

set_option maxRecDepth 100000 in
set_option maxHeartbeats 8000000 in
theorem symMergeI3a (H : IfaceS M ok R T rv gl gs n) (f a m b : Nat) (ham : a + 1 < m) (hmb : m + 1 < b) (hb : b ≤ n) (hcd : m ≤ (a + b) / 2) (s : σ) (w : World) (hR : R s w) (hok : ok (symM M (f + 1) a m b s))
    (IH : ∀ (a m b : Nat) (s : σ) (w : World), a < m → m < b → b ≤ n → b - a ≤ f → R s w → ok (symM M f a m b s) → Calls Try.prog 90 #[.iface T rv, .int .i64 a, .int .i64 m, .int .i64 b] w (Leaves R (symM M f a m b s))) (hf : b - a ≤ f + 1) :
    Calls Try.prog 90 #[.iface T rv, .int .i64 a, .int .i64 m, .int .i64 b] w (Leaves R (symM M (f + 1) a m b s)) := by
  have hn := H.hn
  have mS := H.mS
  have eS := H.eS
  have mL := H.mL
  have eL := H.eL
  have HS := Lib.hid H.swap
  have HL := Lib.hid H.less
  have HG := Lib.hid H.guard
  have HIH := Lib.hid IH; clear IH
  have HRo := Lib.hid (fun a m b ha hm hb t wr => rotateI H a m b ha hm hb t wr)
  have hd1 : ((m : Int) - (a : Int) == 1) = false := by simp; omega
  have hd2 : ((b : Int) - (m : Int) == 1) = false := by simp; omega
  have hd3 : ¬ ((m : Int) - (a : Int) = 1) := by omega
  have hd4 : ¬ ((b : Int) - (m : Int) = 1) := by omega
  generalize hmid : (a + b) / 2 = mid at *
  have hmz : ((a : Int) + (b : Int)) / 2 = (mid : Int) := by omega
  have hd5 : ¬ ((m : Int) > (mid : Int)) := by omega
  have hst : symMStart M a m b s = bsr M (fun c => mid + m - 1 - c) (fun c => c) false (a) (m) s := by
    unfold symMStart
    rw [hmid, if_neg (Nat.not_lt.2 hcd)]
  have hsy : symM M (f + 1) a m b s = symTail M f a m b mid (bsr M (fun c => mid + m - 1 - c) (fun c => c) false (a) (m) s).1 (bsr M (fun c => mid + m - 1 - c) (fun c => c) false (a) (m) s).2 := by
    show (if m - a = 1 then _ else if b - m = 1 then _ else _) = _
    rw [if_neg (by omega), if_neg (by omega), ← hst, ← hmid]
    rfl
  rw [hsy] at hok ⊢
  have HK := Lib.hid (ok_symTail HG.out _ _ _ _ _ _ _ hok)
  have H0 := Lib.hid (And.intro hR hok)
  have hlo : a < mid ∧ mid < b ∧ 2 * mid ≤ a + b ∧ a + b ≤ 2 * mid + 1 := by omega
  clear H hR hok hsy hst hmid
  go_enter Try.func90, Try.ntmps90
  go_wp2_with fail
  go_loopw [18, 19] (fun vi vj wr => ∃ (i j fu : Nat) (t : σ), (a) ≤ i ∧ i ≤ j ∧ j ≤ (m) ∧ vi = .int .i64 i ∧ vj = .int .i64 j ∧ j - i ≤ fu ∧ Hid (R t wr ∧ bsL M (fun c => mid + m - 1 - c) (fun c => c) false fu i j t = bsr M (fun c => mid + m - 1 - c) (fun c => c) false (a) (m) s)) (fun vi vj _ => (intOf vj).toNat - (intOf vi).toNat)
  case atStart => exact ⟨(a), (m), (m) - (a), s, Nat.le_refl _, by omega, Nat.le_refl _, by go_num, by go_num, Nat.le_refl _, H0.out.1, rfl⟩
  case round =>
    obtain ⟨i, j, fu, t, hi, hij, hj, rfl, rfl, hfu, HI⟩ := hrel
    by_cases hlt : i < j
    · obtain ⟨fu, rfl⟩ : ∃ g, fu = g + 1 := ⟨fu - 1, by omega⟩
      have hm : i ≤ (i + j) / 2 ∧ (i + j) / 2 < j := by omega
      cases hv0 : M.less t (mid + m - 1 - (i + j) / 2) ((i + j) / 2)
      · skip
        have hv := hv0
        have HE := Lib.hid (HI.out.2.symm.trans (bsL_up hlt hv)); clear hv0
        have hC := HL.out t wr ((mid + m - 1 - (i + j) / 2)) (((i + j) / 2)) (by omega) (by omega) HI.out.1 (ok_bsL HG.out _ _ _ _ _ _ _ (by rw [← HE.out]; exact HK.out))
        rw [hv] at hC
        rw [show ((mid + m - 1 - (i + j) / 2 : Nat) : Int) = (mid : Int) + (m : Int) - 1 - (((i + j) / 2 : Nat) : Int) by omega] at hC
        have HC := Lib.hid hC; clear hC hv
        go_wp2_with fail
        rw [show ((i : Int) + (j : Int)) / 2 = (((i + j) / 2 : Nat) : Int) by omega]
        refine HC.out.mono ?_
        rintro e w1 ⟨rfl, hR1⟩
        have HR1 := Lib.hid hR1; clear hR1
        go_wp2_with fail
        go_roundw
        case rel => exact ⟨(i + j) / 2 + 1, j, fu, _, by omega, by omega, hj, by go_num, rfl, by omega, HR1.out, HE.out.symm⟩
        case measure => simp [intOf]; omega
      · skip
        have hv := hv0
        have HE := Lib.hid (HI.out.2.symm.trans (bsL_dn hlt (by rw [hv]; simp))); clear hv0
        have hC := HL.out t wr ((mid + m - 1 - (i + j) / 2)) (((i + j) / 2)) (by omega) (by omega) HI.out.1 (ok_bsL HG.out _ _ _ _ _ _ _ (by rw [← HE.out]; exact HK.out))
        rw [hv] at hC
        rw [show ((mid + m - 1 - (i + j) / 2 : Nat) : Int) = (mid : Int) + (m : Int) - 1 - (((i + j) / 2 : Nat) : Int) by omega] at hC
        have HC := Lib.hid hC; clear hC hv
        go_wp2_with fail
        rw [show ((i : Int) + (j : Int)) / 2 = (((i + j) / 2 : Nat) : Int) by omega]
        refine HC.out.mono ?_
        rintro e w1 ⟨rfl, hR1⟩
        have HR1 := Lib.hid hR1; clear hR1
        go_wp2_with fail
        go_roundw
        case rel => exact ⟨i, (i + j) / 2, fu, _, hi, by omega, by omega, rfl, rfl, by omega, HR1.out, HE.out.symm⟩
        case measure => simp [intOf]; omega
    · obtain rfl : i = j := by omega
      have HE := Lib.hid (HI.out.2.symm.trans (bsL_stop (by omega))); clear hlt
      obtain ⟨e, heN⟩ : ∃ e : Nat, mid + m - i = e := ⟨_, rfl⟩
      have hez : (mid : Int) + (m : Int) - (i : Int) = (e : Int) := by omega
      have hee : e + i = mid + m := by omega
      have HeN := Lib.hid heN; clear heN
      by_cases him : i < m
      · by_cases hai : a < i
        · by_cases heb : e < b
          · skip
            have hq00 : (i : Int) < (m : Int) := by omega
            have hq01 : (m : Int) < (e : Int) := by omega
            have hq10 : (a : Int) < (i : Int) := by omega
            have hq11 : (i : Int) < (mid : Int) := by omega
            have hq20 : (mid : Int) < (e : Int) := by omega
            have hq21 : (e : Int) < (b : Int) := by omega
            have HT : Hid (symTail M f a m b mid (bsr M (fun c => mid + m - 1 - c) (fun c => c) false (a) (m) s).1 (bsr M (fun c => mid + m - 1 - c) (fun c => c) false (a) (m) s).2 = symM M f mid e b (symM M f a i mid (rotate M i m e t))) := Lib.hid (by
              rw [HE.out]
              unfold symTail
              dsimp only
              rw [HeN.out, if_pos (show i < m ∧ m < e by omega), if_pos (show a < i ∧ i < mid by omega), if_pos (show mid < e ∧ e < b by omega)])
            have HO : Hid (ok (symM M f mid e b (symM M f a i mid (rotate M i m e t)))) := Lib.hid (by rw [← HT.out]; exact H0.out.2)
            go_wp2_with fail
            refine (HRo.out i m e (by omega) (by omega) (by omega) _ _ HI.out.1 (ok_symM HG.out f _ _ _ _ (ok_symM HG.out f _ _ _ _ (HO.out)))).mono ?_
            rintro ed v1 ⟨rfl, hr1⟩
            have V1 := Lib.hid hr1; clear hr1
            go_wp2_with fail
            refine (HIH.out a i mid _ _ (by omega) (by omega) (by omega) (by omega) V1.out (ok_symM HG.out f _ _ _ _ (HO.out))).mono ?_
            rintro ed v2 ⟨rfl, hr2⟩
            have V2 := Lib.hid hr2; clear hr2
            go_wp2_with fail
            refine (HIH.out mid e b _ _ (by omega) (by omega) (by omega) (by omega) V2.out (HO.out)).mono ?_
            rintro ed v3 ⟨rfl, hr3⟩
            have V3 := Lib.hid hr3; clear hr3
            go_wp2_with fail
            go_end0
            exact ⟨rfl, by rw [HT.out]; exact V3.out⟩
          · skip
            have hq00 : (i : Int) < (m : Int) := by omega
            have hq01 : (m : Int) < (e : Int) := by omega
            have hq10 : (a : Int) < (i : Int) := by omega
            have hq11 : (i : Int) < (mid : Int) := by omega
            have hq20 : (mid : Int) < (e : Int) := by omega
            have hq21 : ¬ ((e : Int) < (b : Int)) := by omega
            have HT : Hid (symTail M f a m b mid (bsr M (fun c => mid + m - 1 - c) (fun c => c) false (a) (m) s).1 (bsr M (fun c => mid + m - 1 - c) (fun c => c) false (a) (m) s).2 = symM M f a i mid (rotate M i m e t)) := Lib.hid (by
              rw [HE.out]
              unfold symTail
              dsimp only
              rw [HeN.out, if_pos (show i < m ∧ m < e by omega), if_pos (show a < i ∧ i < mid by omega), if_neg (show ¬ (mid < e ∧ e < b) by omega)])
            have HO : Hid (ok (symM M f a i mid (rotate M i m e t))) := Lib.hid (by rw [← HT.out]; exact H0.out.2)
            go_wp2_with fail
            refine (HRo.out i m e (by omega) (by omega) (by omega) _ _ HI.out.1 (ok_symM HG.out f _ _ _ _ (HO.out))).mono ?_
            rintro ed v1 ⟨rfl, hr1⟩
            have V1 := Lib.hid hr1; clear hr1
            go_wp2_with fail
            refine (HIH.out a i mid _ _ (by omega) (by omega) (by omega) (by omega) V1.out (HO.out)).mono ?_
            rintro ed v2 ⟨rfl, hr2⟩
            have V2 := Lib.hid hr2; clear hr2
            go_wp2_with fail
            go_end0
            exact ⟨rfl, by rw [HT.out]; exact V2.out⟩
        · by_cases heb : e < b
          · skip
            have hq00 : (i : Int) < (m : Int) := by omega
            have hq01 : (m : Int) < (e : Int) := by omega
            have hq10 : ¬ ((a : Int) < (i : Int)) := by omega
            have hq20 : (mid : Int) < (e : Int) := by omega
            have hq21 : (e : Int) < (b : Int) := by omega
            have HT : Hid (symTail M f a m b mid (bsr M (fun c => mid + m - 1 - c) (fun c => c) false (a) (m) s).1 (bsr M (fun c => mid + m - 1 - c) (fun c => c) false (a) (m) s).2 = symM M f mid e b (rotate M i m e t)) := Lib.hid (by
              rw [HE.out]
              unfold symTail
              dsimp only
              rw [HeN.out, if_pos (show i < m ∧ m < e by omega), if_neg (show ¬ (a < i ∧ i < mid) by omega), if_pos (show mid < e ∧ e < b by omega)])
            have HO : Hid (ok (symM M f mid e b (rotate M i m e t))) := Lib.hid (by rw [← HT.out]; exact H0.out.2)
            go_wp2_with fail
            refine (HRo.out i m e (by omega) (by omega) (by omega) _ _ HI.out.1 (ok_symM HG.out f _ _ _ _ (HO.out))).mono ?_
            rintro ed v1 ⟨rfl, hr1⟩
            have V1 := Lib.hid hr1; clear hr1
            go_wp2_with fail
            refine (HIH.out mid e b _ _ (by omega) (by omega) (by omega) (by omega) V1.out (HO.out)).mono ?_
            rintro ed v2 ⟨rfl, hr2⟩
            have V2 := Lib.hid hr2; clear hr2
            go_wp2_with fail
            go_end0
            exact ⟨rfl, by rw [HT.out]; exact V2.out⟩
          · skip
            have hq00 : (i : Int) < (m : Int) := by omega
            have hq01 : (m : Int) < (e : Int) := by omega
            have hq10 : ¬ ((a : Int) < (i : Int)) := by omega
            have hq20 : (mid : Int) < (e : Int) := by omega
            have hq21 : ¬ ((e : Int) < (b : Int)) := by omega
            have HT : Hid (symTail M f a m b mid (bsr M (fun c => mid + m - 1 - c) (fun c => c) false (a) (m) s).1 (bsr M (fun c => mid + m - 1 - c) (fun c => c) false (a) (m) s).2 = rotate M i m e t) := Lib.hid (by
              rw [HE.out]
              unfold symTail
              dsimp only
              rw [HeN.out, if_pos (show i < m ∧ m < e by omega), if_neg (show ¬ (a < i ∧ i < mid) by omega), if_neg (show ¬ (mid < e ∧ e < b) by omega)])
            have HO : Hid (ok (rotate M i m e t)) := Lib.hid (by rw [← HT.out]; exact H0.out.2)
            go_wp2_with fail
            refine (HRo.out i m e (by omega) (by omega) (by omega) _ _ HI.out.1 (HO.out)).mono ?_
            rintro ed v1 ⟨rfl, hr1⟩
            have V1 := Lib.hid hr1; clear hr1
            go_wp2_with fail
            go_end0
            exact ⟨rfl, by rw [HT.out]; exact V1.out⟩
      · by_cases hmm : m < mid
        · skip
          have hq00 : ¬ ((i : Int) < (m : Int)) := by omega
          have hq10 : (a : Int) < (i : Int) := by omega
          have hq11 : (i : Int) < (mid : Int) := by omega
          have hq20 : ¬ ((mid : Int) < (e : Int)) := by omega
          have HT : Hid (symTail M f a m b mid (bsr M (fun c => mid + m - 1 - c) (fun c => c) false (a) (m) s).1 (bsr M (fun c => mid + m - 1 - c) (fun c => c) false (a) (m) s).2 = symM M f a i mid (t)) := Lib.hid (by
            rw [HE.out]
            unfold symTail
            dsimp only
            rw [HeN.out, if_neg (show ¬ (i < m ∧ m < e) by omega), if_pos (show a < i ∧ i < mid by omega), if_neg (show ¬ (mid < e ∧ e < b) by omega)])
          have HO : Hid (ok (symM M f a i mid (t))) := Lib.hid (by rw [← HT.out]; exact H0.out.2)
          go_wp2_with fail
          refine (HIH.out a i mid _ _ (by omega) (by omega) (by omega) (by omega) HI.out.1 (HO.out)).mono ?_
          rintro ed v1 ⟨rfl, hr1⟩
          have V1 := Lib.hid hr1; clear hr1
          go_wp2_with fail
          go_end0
          exact ⟨rfl, by rw [HT.out]; exact V1.out⟩
        · skip
          have hq00 : ¬ ((i : Int) < (m : Int)) := by omega
          have hq10 : (a : Int) < (i : Int) := by omega
          have hq11 : ¬ ((i : Int) < (mid : Int)) := by omega
          have hq20 : ¬ ((mid : Int) < (e : Int)) := by omega
          have HT : Hid (symTail M f a m b mid (bsr M (fun c => mid + m - 1 - c) (fun c => c) false (a) (m) s).1 (bsr M (fun c => mid + m - 1 - c) (fun c => c) false (a) (m) s).2 = t) := Lib.hid (by
            rw [HE.out]
            unfold symTail
            dsimp only
            rw [HeN.out, if_neg (show ¬ (i < m ∧ m < e) by omega), if_neg (show ¬ (a < i ∧ i < mid) by omega), if_neg (show ¬ (mid < e ∧ e < b) by omega)])
          have HO : Hid (ok (t)) := Lib.hid (by rw [← HT.out]; exact H0.out.2)
          go_wp2_with fail
          go_end0
          exact ⟨rfl, by rw [HT.out]; exact HI.out.1⟩

theorem symMergeI (H : IfaceS M ok R T rv gl gs n) : ∀ (f a m b : Nat) (s : σ) (w : World), a < m → m < b → b ≤ n → b - a ≤ f → R s w → ok (symM M f a m b s) →
    Calls Try.prog 90 #[.iface T rv, .int .i64 a, .int .i64 m, .int .i64 b] w (Leaves R (symM M f a m b s))
  | 0, a, m, b, s, w, h1, h2, h3, h4, hR, hok => absurd h4 (by omega)
  | f + 1, a, m, b, s, w, h1, h2, h3, h4, hR, hok => by
    by_cases c1 : m = a + 1
    · exact symMergeI1 H f a m b c1 h2 h3 s w hR hok
    by_cases c2 : b = m + 1
    · exact symMergeI2 H f a m b (by omega) c2 h3 s w hR hok
    by_cases c3 : (a + b) / 2 < m
    · exact symMergeI3b H f a m b (by omega) (by omega) h3 c3 s w hR hok (fun a m b s w => symMergeI H f a m b s w) h4
    · exact symMergeI3a H f a m b (by omega) (by omega) h3 (by omega) s w hR hok (fun a m b s w => symMergeI H f a m b s w) h4
end
end Go.Proofs.Ytjammaglboehcaa
