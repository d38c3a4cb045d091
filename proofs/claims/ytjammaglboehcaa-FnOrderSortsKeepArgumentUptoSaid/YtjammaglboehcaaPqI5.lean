/-
  The walk of sort.pdqsort and of sort.Sort at an interface: they do what the plain program does.
-/
import Derived.Test.YtjammaglboehcaaPqI
import Derived.Test.YtjammaglboehcaaPqI3
import Derived.Test.YtjammaglboehcaaPqI4
import Derived.Test.YtjammaglboehcaaZB
namespace Go.Proofs.Ytjammaglboehcaa
open Go.RowKit Go.Proofs
set_option linter.unusedVariables false

section
variable {σ : Type} {M : Mach σ} {ok : σ → Prop} {RX : Option (Nat × Value) → σ → World → Prop} {T : TypeId} {rv : Value} {gl gs n : Nat}

set_option maxRecDepth 100000 in
set_option maxHeartbeats 4000000 in
theorem pdqsortI (H : IfaceQ M ok RX T rv gl gs n) : ∀ (f0 a0 b0 lim0 : Nat) (s : σ) (w : World), a0 ≤ b0 → b0 ≤ n → b0 - a0 ≤ f0 → lim0 ≤ 1000 → RX none s w → ok (pdqL M othR f0 a0 b0 lim0 true true s) →
    Calls Try.prog 60 #[.iface T rv, .int .i64 a0, .int .i64 b0, .int .i64 lim0] w (Leaves (RX none) (pdqL M othR f0 a0 b0 lim0 true true s)) := by
  intro f0
  induction f0 using Nat.strongRecOn with
  | ind f0 ih =>
  intro a0 b0 lim0 s w hab0 hb0 hf0 hli0 hR hok
  have hn := (H.face none).hn
  have mL := (H.face none).mL
  have eL := (H.face none).eL
  have HL := Lib.hid (H.face none).less
  have HG := Lib.hid (H.face none).guard
  have HIns := Lib.hid (fun a b hab hb t wr => insertionSortI (H.face none) a b hab hb t wr)
  have HHeap := Lib.hid (fun a b hab hb t wr => heapSortI (H.face none) a b hab hb t wr)
  have HBrk := Lib.hid (fun a b hab hb t wr => breakPatternsI H a b hab hb t wr)
  have HCho := Lib.hid (fun a b hab hb t wr => choosePivotI H a b hab hb t wr)
  have HRev := Lib.hid (fun a b hab hb t wr => reverseRangeI (H.face none) a b hab hb t wr)
  have HPI := Lib.hid (fun a b hab hb t wr => partialInsertionSortI (H.face none) a b hab hb t wr)
  have HPE := Lib.hid (fun a b pv h1 h2 hb t wr => partitionEqualI (H.face none) a b pv h1 h2 hb t wr)
  have HPa := Lib.hid (fun a b pv h1 h2 hb t wr => partitionI (H.face none) a b pv h1 h2 hb t wr)
  have HIH := Lib.hid ih
  have H0 := Lib.hid (And.intro hR hok)
  clear H hR hok ih
  generalize hTG : pdqL M othR f0 a0 b0 lim0 true true s = TGT at *
  have HTG := Lib.hid hTG; clear hTG
  go_enter Try.func60, Try.ntmps60
  go_wp2_with fail
  go_loopg [1, 2, 3, 8, 9] f0 (fun g va vb vl v8 v9 wr => ∃ (a b lim : Nat) (wb wp : Bool) (t : σ), va = .int .i64 a ∧ vb = .int .i64 b ∧ vl = .int .i64 lim ∧ v8 = .bool wb ∧ v9 = .bool wp ∧ a ≤ b ∧ b ≤ n ∧ b - a ≤ g ∧ g ≤ f0 ∧ lim ≤ 1000 ∧ Hid (RX none t wr ∧ pdqL M othR g a b lim wb wp t = TGT))
  case atStart => exact ⟨a0, b0, lim0, true, true, s, rfl, rfl, rfl, rfl, rfl, hab0, hb0, hf0, Nat.le_refl _, hli0, H0.out.1, HTG.out⟩
  case round =>
    obtain ⟨a, b, lim, wb, wp, t, rfl, rfl, rfl, rfl, rfl, hab, hb, hg, hgf, hl, HI⟩ := hrel
    by_cases h12 : b - a ≤ 12
    · have hz : (b : Int) - (a : Int) ≤ 12 := by omega
      have HF : Hid (TGT = insSort M a b t) := Lib.hid (HI.out.2.symm.trans (pdqL_small hg h12))
      have HC := Lib.hid (HIns.out a b hab hb t wr HI.out.1 (by rw [← HF.out]; exact H0.out.2))
      go_wp2_with fail
      refine HC.out.mono ?_
      rintro e w1 ⟨rfl, hR1⟩
      have HR1 := Lib.hid hR1; clear hR1
      go_wp2_with fail
      go_end0
      exact ⟨rfl, by rw [HF.out]; exact HR1.out⟩
    · have hz : ¬ ((b : Int) - (a : Int) ≤ 12) := by omega
      obtain ⟨f, rfl⟩ : ∃ g, gk = g + 1 := ⟨gk - 1, by omega⟩
      by_cases hl0 : lim = 0
      · subst hl0
        have HF : Hid (TGT = heapS M a b t) := Lib.hid (HI.out.2.symm.trans (pdqL_heap h12))
        have HC := Lib.hid (HHeap.out a b (by omega) hb t wr HI.out.1 (by rw [← HF.out]; exact H0.out.2))
        go_wp2_with fail
        refine HC.out.mono ?_
        rintro e w1 ⟨rfl, hR1⟩
        have HR1 := Lib.hid hR1; clear hR1
        go_wp2_with fail
        go_end0
        exact ⟨rfl, by rw [HF.out]; exact HR1.out⟩
      · have hlz : ((lim : Int) == 0) = false := by simp; omega
        have hlz2 : ¬ ((lim : Int) = 0) := by omega
        have hrd := HI.out.2.symm.trans (pdqL_round h12 hl0)
        obtain ⟨s1, hs1⟩ : ∃ x, x = rdA M othR a b wb t := ⟨_, rfl⟩
        obtain ⟨l1, hl1⟩ : ∃ x, x = limN lim wb := ⟨_, rfl⟩
        rw [← hs1, ← hl1] at hrd
        have wch := way_chooseP (M := M) (n := n) a b s1 (by omega) hb
        have hCh := fun w' hr => HCho.out a b (by omega) hb s1 w' hr
        obtain ⟨c, hc⟩ : ∃ x, x = chooseP M a b s1 := ⟨_, rfl⟩
        rw [← hc] at hrd wch hCh
        obtain ⟨cx, ch, cs⟩ := c
        dsimp only at wch hCh
        have hpvi := rdV_in a b (cx, ch, cs) wch.2.1 wch.2.2
        obtain ⟨s2, hs2⟩ : ∃ x, x = rdR M a b (cx, ch, cs) := ⟨_, rfl⟩
        obtain ⟨pv, hpv⟩ : ∃ x, x = rdV a b (cx, ch, cs) := ⟨_, rfl⟩
        obtain ⟨h, hh⟩ : ∃ x, x = rdH (cx, ch, cs) := ⟨_, rfl⟩
        rw [← hpv] at hpvi
        rw [← hs2, ← hpv, ← hh] at hrd
        obtain ⟨p, hp⟩ : ∃ x, x = rdP M a b wb wp h s2 := ⟨_, rfl⟩
        rw [← hp] at hrd
        have okp : ok p.2 := by
          by_cases hp1 : p.1 = true
          · rw [if_pos hp1] at hrd; rw [← hrd]; exact H0.out.2
          · rw [if_neg hp1] at hrd
            exact (way_rdT othR_ok f a b l1 wb wp pv p.2 hpvi.1 hpvi.2 hb).ok HG.out (by rw [← hrd]; exact H0.out.2)
        have ok2 : ok s2 := (way_rdP (n := n) a b wb wp h s2 (by omega) hb).ok HG.out (by rw [← hp]; exact okp)
        have okc : ok cs := (way_rdR (n := n) a b (cx, ch, cs) (by omega) hb).ok HG.out (by rw [← hs2]; exact ok2)
        have ok1 : ok s1 := wch.1.ok HG.out okc
        have hl1b : l1 ≤ 1000 := by rw [hl1]; unfold limN; split <;> omega
        have hcxb : a ≤ cx ∧ cx < b := wch.2
        have HCh := Lib.hid (fun w' hr => hCh w' hr okc)
        have HS1 := Lib.hid (And.intro hs1 (And.intro hl1 ok1))
        have HS2 := Lib.hid (And.intro hs2 (And.intro hpv (And.intro hh ok2)))
        have HPp := Lib.hid (And.intro hp okp)
        have HRd := Lib.hid hrd
        clear hs1 hl1 hc wch hCh hs2 hpv hh hp okp ok2 okc ok1 hrd
        go_upto_if 35 with fail
        go_cut [3] from 19 to 128 (fun s3 wc => s3 = .int .i64 (l1 : Nat) ∧ Hid (RX none s1 wc))
        case first =>
          cases wb
          · have HC := Lib.hid (HBrk.out a b (by omega) hb t wr HI.out.1 (by have h1 := HS1.out.2.2; rw [HS1.out.1] at h1; exact h1))
            go_wp2_with fail
            refine HC.out.mono ?_
            rintro e w1 ⟨rfl, hR1⟩
            have HR1 := Lib.hid hR1; clear hR1
            go_wp2_with fail
            go_meet
            refine ⟨?_, by rw [HS1.out.1]; exact HR1.out⟩
            rw [show l1 = lim - 1 from HS1.out.2.1]
            go_num
          · go_wp2_with fail
            go_meet
            exact ⟨by rw [show l1 = lim from HS1.out.2.1], by rw [HS1.out.1]; exact HI.out.1⟩
        case rest =>
          obtain ⟨rfl, HR1⟩ := hcut
          clear HI
          go_upto_if 50 with (go_at_call 84; refine (HCh.out _ HR1.out).mono ?_; rintro e w2 ⟨rfl, hR2⟩; have HR2 := Lib.hid hR2; clear hR2)
          go_cut [11, 12] from 19 to 128 (fun s11 s12 wc => s11 = .int .i64 (pv : Nat) ∧ s12 = .int .i64 (h : Nat) ∧ Hid (RX none s2 wc))
          case first =>
            by_cases hc2 : ch = 2
            · have hcz : ((ch : Int) == 2) = true := by simp; omega
              have hcz2 : (ch : Int) = 2 := by omega
              have hr2 : s2 = revR M a b cs := by rw [HS2.out.1]; unfold rdR; rw [if_pos hc2]
              have hr3 : pv = b - 1 - (cx - a) := by rw [HS2.out.2.1]; unfold rdV; rw [if_pos hc2]
              have hr4 : h = 1 := by rw [HS2.out.2.2.1]; unfold rdH; rw [if_pos hc2]
              have HC := Lib.hid (HRev.out a b (by omega) hb cs w2 HR2.out (by rw [← hr2]; exact HS2.out.2.2.2))
              have HQ := Lib.hid (And.intro hr2 (And.intro hr3 hr4))
              clear hr2 hr3 hr4
              go_wp2_with fail
              refine HC.out.mono ?_
              rintro e w3 ⟨rfl, hR3⟩
              have HR3 := Lib.hid hR3; clear hR3
              go_wp2_with fail
              go_meet
              refine ⟨?_, by rw [HQ.out.2.2]; rfl, by rw [HQ.out.1]; exact HR3.out⟩
              rw [HQ.out.2.1]
              exact congrArg (Value.int .i64) (by omega)
            · have hcz : ((ch : Int) == 2) = false := by simp; omega
              have hcz2 : ¬ ((ch : Int) = 2) := by omega
              have hr2 : s2 = cs := by rw [HS2.out.1]; unfold rdR; rw [if_neg hc2]
              have hr3 : pv = cx := by rw [HS2.out.2.1]; unfold rdV; rw [if_neg hc2]
              have hr4 : h = ch := by rw [HS2.out.2.2.1]; unfold rdH; rw [if_neg hc2]
              have HQ := Lib.hid (And.intro hr2 (And.intro hr3 hr4))
              clear hr2 hr3 hr4
              go_wp2_with fail
              go_meet
              exact ⟨by rw [HQ.out.2.1], by rw [HQ.out.2.2], by rw [HQ.out.1]; exact HR2.out⟩
          case rest =>
            obtain ⟨rfl, rfl, HR3⟩ := hcut
            clear HR1 HR2 HCh
            go_upto_region 15 with fail
            go_cut [12, 68] from 19 to 128 (fun s12 s68 wx => s12 = .int .i64 (h : Nat) ∧ s68 = .bool (decide (wb = true ∧ wp = true ∧ h = 1)) ∧ wc = wx)
            case first =>
              cases wb
              · go_wp2_with fail
                go_meet
                exact ⟨rfl, by simp, rfl⟩
              · cases wp
                · go_wp2_with fail
                  go_meet
                  exact ⟨rfl, by simp, rfl⟩
                · by_cases hh1 : h = 1
                  · have hhz : ((h : Int) == 1) = true := by simp; omega
                    have hhz2 : (h : Int) = 1 := by omega
                    go_wp2_with fail
                    go_meet
                    exact ⟨by simp [hh1], by simp [hh1], rfl⟩
                  · have hhz : ((h : Int) == 1) = false := by simp; omega
                    have hhz2 : ¬ ((h : Int) = 1) := by omega
                    go_wp2_with fail
                    go_meet
                    exact ⟨rfl, by simp [hh1], rfl⟩
            case rest =>
              obtain ⟨rfl, rfl, rfl⟩ := hcut
              go_upto_if 68 with fail
              go_cut [] from 19 to 128 (fun wc => Hid (p.1 = false ∧ RX none p.2 wc))
              case first =>
                by_cases hcond : wb = true ∧ wp = true ∧ h = 1
                · rw [show decide (wb = true ∧ wp = true ∧ h = 1) = true from decide_eq_true hcond]
                  have hpp : p = partI M a b 5 (a + 1) s2 := by rw [HPp.out.1]; unfold rdP; rw [if_pos hcond]
                  have hC := HPI.out a b (by omega) hb s2 wc HR3.out (by rw [← hpp]; exact HPp.out.2)
                  rw [← hpp] at hC
                  have HC := Lib.hid hC
                  clear hC hpp hcond
                  obtain ⟨p1, p2⟩ := p
                  dsimp only at HC HRd HPp
                  cases p1
                  · go_wp2_with fail
                    refine HC.out.mono ?_
                    rintro e w4 ⟨rfl, hR4⟩
                    have HR4 := Lib.hid hR4; clear hR4
                    go_wp2_with fail
                    go_meet
                    exact ⟨by simp, HR4.out⟩
                  · have HF : Hid (TGT = p2) := Lib.hid (by have h1 := HRd.out; rw [if_pos rfl] at h1; exact h1)
                    go_wp2_with fail
                    refine HC.out.mono ?_
                    rintro e w4 ⟨rfl, hR4⟩
                    have HR4 := Lib.hid hR4; clear hR4
                    go_wp2_with fail
                    go_end0
                    exact ⟨rfl, by rw [HF.out]; exact HR4.out⟩
                · rw [show decide (wb = true ∧ wp = true ∧ h = 1) = false from decide_eq_false hcond]
                  have HQ : Hid (p = (false, s2)) := Lib.hid (by rw [HPp.out.1]; unfold rdP; rw [if_neg hcond])
                  clear hcond
                  go_wp2_with fail
                  go_meet
                  exact ⟨by rw [HQ.out], by rw [HQ.out]; exact HR3.out⟩
              case rest =>
                have HR4 : Hid (p.1 = false ∧ RX none p.2 wc) := hcut
                clear hcut HR3
                have HT : Hid (TGT = rdT M othR f a b l1 wb wp pv p.2) := Lib.hid (by have h1 := HRd.out; rw [if_neg (by rw [HR4.out.1]; simp)] at h1; exact h1)
                clear HRd
                obtain ⟨q, hq⟩ : ∃ x, x = p.2 := ⟨_, rfl⟩
                rw [← hq] at HT HR4
                clear HPp HS2 HS1
                clear hq
                go_upto_region 17 with fail
                go_cut [82] from 19 to 128 (fun s82 wc => ∃ (v : Bool) (u : σ), s82 = .bool v ∧ Hid (RX none u wc ∧ TGT = if v = true then rdE M othR f a b l1 wb wp pv u else rdU M othR f a b l1 pv u))
                case first =>
                  by_cases ha : 0 < a
                  · have haz : (a : Int) > 0 := by omega
                    cases hv : M.less q (a - 1) pv
                    · have HF : Hid (TGT = rdE M othR f a b l1 wb wp pv (M.tick q (a - 1) pv)) := Lib.hid (by rw [HT.out]; unfold rdT; rw [if_pos ⟨ha, hv⟩])
                      have hC := HL.out q wc (a - 1) pv (by omega) (by omega) HR4.out.2 (((way_partEq (n := n) a b pv _ hpvi.1 hpvi.2 hb).1.rch.trans (way_rdE othR_ok f a b l1 wb wp pv _ hpvi.1 hpvi.2 hb)).ok HG.out (by rw [← HF.out]; exact H0.out.2))
                      rw [hv, show ((a - 1 : Nat) : Int) = (a : Int) - 1 by omega] at hC
                      have HC := Lib.hid hC; clear hC hv
                      go_wp2_with fail
                      refine HC.out.mono ?_
                      rintro e w5 ⟨rfl, hR5⟩
                      have HR5 := Lib.hid hR5; clear hR5
                      go_wp2_with fail
                      go_meet
                      exact ⟨true, _, rfl, HR5.out, by rw [if_pos rfl]; exact HF.out⟩
                    · have HF : Hid (TGT = rdU M othR f a b l1 pv (M.tick q (a - 1) pv)) := Lib.hid (by rw [HT.out]; unfold rdT; rw [if_neg (by rw [hv]; simp), if_pos ha])
                      have hC := HL.out q wc (a - 1) pv (by omega) (by omega) HR4.out.2 (((way_partit (n := n) a b pv _ hpvi.1 hpvi.2 hb).1.rch.trans (way_rdU othR_ok f a b l1 pv _ hpvi.1 hpvi.2 hb)).ok HG.out (by rw [← HF.out]; exact H0.out.2))
                      rw [hv, show ((a - 1 : Nat) : Int) = (a : Int) - 1 by omega] at hC
                      have HC := Lib.hid hC; clear hC hv
                      go_wp2_with fail
                      refine HC.out.mono ?_
                      rintro e w5 ⟨rfl, hR5⟩
                      have HR5 := Lib.hid hR5; clear hR5
                      go_wp2_with fail
                      go_meet
                      exact ⟨false, _, rfl, HR5.out, by rw [if_neg (by simp)]; exact HF.out⟩
                  · have haz : ¬ ((a : Int) > 0) := by omega
                    have HF : Hid (TGT = rdU M othR f a b l1 pv q) := Lib.hid (by rw [HT.out]; unfold rdT; rw [if_neg (fun h => ha h.1), if_neg ha])
                    go_wp2_with fail
                    go_meet
                    exact ⟨false, _, rfl, HR4.out.2, by rw [if_neg (by simp)]; exact HF.out⟩
                case rest =>
                  obtain ⟨v, u, rfl, HU⟩ := hcut
                  clear HR4 HT
                  cases v
                  · have HF : Hid (TGT = rdU M othR f a b l1 pv u) := Lib.hid (by have h1 := HU.out.2; rw [if_neg (by simp)] at h1; exact h1)
                    have HRu := Lib.hid HU.out.1
                    have hw := way_partit (M := M) (n := n) a b pv u hpvi.1 hpvi.2 hb
                    have hC := HPa.out a b pv hpvi.1 hpvi.2 hb u wc HRu.out ((way_rdU othR_ok f a b l1 pv u hpvi.1 hpvi.2 hb).ok HG.out (by rw [← HF.out]; exact H0.out.2))
                    have hF := HF.out
                    unfold rdU at hF
                    obtain ⟨r, hr⟩ : ∃ x, x = partit M a b pv u := ⟨_, rfl⟩
                    rw [← hr] at hF hC hw
                    obtain ⟨mid, ap, t3⟩ := r
                    dsimp only at hF hC hw
                    have hmid : a ≤ mid ∧ mid < b := hw.2
                    have HC := Lib.hid hC; have HF2 := Lib.hid hF
                    clear hF hC hw hr HU HF
                    by_cases hlr : mid - a < b - mid
                    · have hlrz : (mid : Int) - (a : Int) < (b : Int) - (mid : Int) := by omega
                      have HF : Hid (TGT = pdqL M othR f (mid + 1) b l1 (decide ((b - a) / 8 ≤ mid - a)) ap (pdqL M othR f a mid l1 true true t3)) := Lib.hid (by have h1 := HF2.out; rw [if_pos hlr] at h1; exact h1)
                      have HCr := Lib.hid (fun w' hr => HIH.out f (by omega) a mid l1 t3 w' hmid.1 (by omega) (by omega) hl1b hr ((way_pdqL (n := n) othR_ok f (mid + 1) b l1 _ _ _ (by omega) hb).ok HG.out (by rw [← HF.out]; exact H0.out.2)))
                      clear HF2
                      go_wp2_with fail
                      refine HC.out.mono ?_
                      rintro e w6 ⟨rfl, hR6⟩
                      have HR6 := Lib.hid hR6; clear hR6
                      go_wp2_with fail
                      refine (HCr.out _ HR6.out).mono ?_
                      rintro e w7 ⟨rfl, hR7⟩
                      have HR7 := Lib.hid hR7; clear hR7
                      go_wp2_with fail
                      go_roundg f
                      case measure => omega
                      case rel => exact ⟨mid + 1, b, l1, decide ((b - a) / 8 ≤ mid - a), ap, _, by go_num, rfl, rfl, congrArg Value.bool (decide_eq_decide.2 (by omega)), rfl, by omega, hb, by omega, by omega, hl1b, HR7.out, HF.out.symm⟩
                    · have hlrz : ¬ ((mid : Int) - (a : Int) < (b : Int) - (mid : Int)) := by omega
                      have HF : Hid (TGT = pdqL M othR f a mid l1 (decide ((b - a) / 8 ≤ b - mid)) ap (pdqL M othR f (mid + 1) b l1 true true t3)) := Lib.hid (by have h1 := HF2.out; rw [if_neg hlr] at h1; exact h1)
                      have hCr := fun w' hr => HIH.out f (by omega) (mid + 1) b l1 t3 w' (by omega) hb (by omega) hl1b hr ((way_pdqL (n := n) othR_ok f a mid l1 _ _ _ hmid.1 (by omega)).ok HG.out (by rw [← HF.out]; exact H0.out.2))
                      rw [show ((mid + 1 : Nat) : Int) = (mid : Int) + 1 by omega] at hCr
                      have HCr := Lib.hid hCr
                      clear HF2 hCr
                      go_wp2_with fail
                      refine HC.out.mono ?_
                      rintro e w6 ⟨rfl, hR6⟩
                      have HR6 := Lib.hid hR6; clear hR6
                      go_wp2_with fail
                      refine (HCr.out _ HR6.out).mono ?_
                      rintro e w7 ⟨rfl, hR7⟩
                      have HR7 := Lib.hid hR7; clear hR7
                      go_wp2_with fail
                      go_roundg f
                      case measure => omega
                      case rel => exact ⟨a, mid, l1, decide ((b - a) / 8 ≤ b - mid), ap, _, rfl, rfl, rfl, congrArg Value.bool (decide_eq_decide.2 (by omega)), rfl, by omega, by omega, by omega, by omega, hl1b, HR7.out, HF.out.symm⟩
                  · have HF : Hid (TGT = rdE M othR f a b l1 wb wp pv u) := Lib.hid (by have h1 := HU.out.2; rw [if_pos rfl] at h1; exact h1)
                    have HRu := Lib.hid HU.out.1
                    have hw := way_partEq (M := M) (n := n) a b pv u hpvi.1 hpvi.2 hb
                    have hC := HPE.out a b pv hpvi.1 hpvi.2 hb u wc HRu.out ((way_rdE othR_ok f a b l1 wb wp pv u hpvi.1 hpvi.2 hb).ok HG.out (by rw [← HF.out]; exact H0.out.2))
                    have hF := HF.out
                    unfold rdE at hF
                    obtain ⟨r, hr⟩ : ∃ x, x = partEq M a b pv u := ⟨_, rfl⟩
                    rw [← hr] at hF hC hw
                    obtain ⟨mid, t3⟩ := r
                    dsimp only at hF hC hw
                    have hmid : a < mid ∧ mid ≤ b := hw.2
                    have HC := Lib.hid hC; have HF2 := Lib.hid hF
                    clear hF hC hw hr HU HF
                    go_wp2_with fail
                    refine HC.out.mono ?_
                    rintro e w6 ⟨rfl, hR6⟩
                    have HR6 := Lib.hid hR6; clear hR6
                    go_wp2_with fail
                    go_roundg f
                    case measure => omega
                    case rel => exact ⟨mid, b, l1, wb, wp, _, rfl, rfl, rfl, rfl, rfl, by omega, hb, by omega, by omega, hl1b, HR6.out, HF2.out.symm⟩

theorem bitsL_eq (n : Nat) : bitsL n = Sort.bitsLen n := rfl
set_option maxHeartbeats 1000000 in
theorem sortSort (H : IfaceQ M ok RX T rv gl gs n) (gn : Nat) (mN : ∀ w, (method 266 T rv "Len").run Try.prog w = .ok (gn, rv) w) (eN : ∀ args w, (callFunc gn args).run Try.prog w = .ok (.enter gn args) w)
    (s : σ) (w : World) (hN : Calls Try.prog gn #[rv] w fun e w' => e = .returned (.int .i64 n) ∧ RX none s w') (hok : ok (pdqS M othR n s)) :
    Calls Try.prog 37 #[.iface T rv] w (Leaves (RX none) (pdqS M othR n s)) := by
  have hn := (H.face none).hn
  have HN := Lib.hid hN
  have HLen := Lib.hid (fun w => bitsLenI n (by omega) w)
  have wr : IntKind.u64.wrap (n : Int) = n := by rw [IntKind.wrap_u64]; omega
  by_cases h1 : n ≤ 1
  · have h1z : (n : Int) ≤ 1 := by omega
    have HF : Hid (pdqS M othR n s = s) := Lib.hid (by unfold pdqS; rw [if_pos h1])
    clear hN H hok HLen wr
    go_enter Try.func37, Try.ntmps37
    go_wp2_with fail
    refine HN.out.mono ?_
    rintro e w1 ⟨rfl, hR1⟩
    have HR1 := Lib.hid hR1; clear hR1
    go_wp2_with fail
    go_end0
    exact ⟨rfl, by rw [HF.out]; exact HR1.out⟩
  · have h1z : ¬ ((n : Int) ≤ 1) := by omega
    have hF : pdqS M othR n s = pdqL M othR n 0 n (Sort.bitsLen n) true true s := by unfold pdqS; rw [if_neg h1]; rfl
    rw [hF] at hok ⊢
    have hbl : Sort.bitsLen n ≤ 1000 := Nat.le_trans ((Sort.bitsLen_le_iff n 62).2 (by omega)) (by omega)
    have HS := Lib.hid (fun w' hR => pdqsortI H n 0 n (Sort.bitsLen n) s w' (Nat.zero_le _) (Nat.le_refl _) (by omega) hbl hR hok)
    clear hN H hok hF
    go_enter Try.func37, Try.ntmps37
    go_wp2_with fail
    refine HN.out.mono ?_
    rintro e w1 ⟨rfl, hR1⟩
    have HR1 := Lib.hid hR1; clear hR1
    go_wp2_with fail
    refine (HLen.out _).mono ?_
    rintro e w2 ⟨rfl, rfl⟩
    go_wp2_with fail
    refine (HS.out _ HR1.out).mono ?_
    rintro e w3 ⟨rfl, hR3⟩
    have HR3 := Lib.hid hR3; clear hR3
    go_wp2_with fail
    go_end0
    exact ⟨rfl, HR3.out⟩
end
end Go.Proofs.Ytjammaglboehcaa
