/-
  Several texts of the walk or of the plain theory in one: StN1, StN2, StN3, StN4.
-/
import Derived.Test.YtjammaglboehcaaProg
import Derived.Test.YtjammaglboehcaaStB
import Derived.BigRegion
import Derived.StillTailTactics
namespace Go.Proofs.Ytjammaglboehcaa
open Go.RowKit Go.Proofs
set_option linter.unusedVariables false

/-- A row of elements of its own and a comparison, over a machine. -/
structure CmpN {σ : Type} (M : Mach σ) (ok : σ → Prop) (R : σ → World → Prop) (val : σ → Nat → Int) (g cap gc : Nat) (cb : Array Value) (n : Nat) : Prop where
  guard : Guard M ok
  hn : n ≤ 1152921504606846975
  eC : ∀ args w, (callFunc gc args).run Try.prog w = .ok (.enter gc args) w
  drew : ∀ s w q, R s w → R s (w.drewN q)
  cell : ∀ s w i, i < n → R s w → w.cell? ⟨g, i, none⟩ = some (.int .i64 (val s i)) ∧ w.frozen? ⟨g, i, none⟩ = false
  cmp : ∀ s w i j, i < n → j < n → R s w → ok (M.tick s i j) → Calls Try.prog gc (#[.int .i64 (val s i), .int .i64 (val s j)] ++ cb) w fun e w' => ∃ c : Int, e = .returned (.int .i64 c) ∧ decide (c < 0) = M.less s i j ∧ R (M.tick s i j) w'
  swap : ∀ s w i j, i < n → j < n → R s w → ok (M.swap s i j) → R (M.swap s i j) ((w.setCell ⟨g, i, none⟩ (.int .i64 (val s j))).setCell ⟨g, j, none⟩ (.int .i64 (val s i)))

section
variable {σ : Type} {M : Mach σ} {ok : σ → Prop} {R : σ → World → Prop} {val : σ → Nat → Int} {g cap gc n : Nat} {cb : Array Value}

set_option maxRecDepth 100000 in
set_option maxHeartbeats 4000000 in
theorem swapRangeN (H : CmpN M ok R val g cap gc cb n) (a b k : Nat) (ha : a + k ≤ n) (hb : b + k ≤ n) (s : σ) (w : World) (hR : R s w) (hok : ok (swapR M a b k 0 s)) :
    Calls Try.prog 148 #[.slice (some ⟨g, 0, none⟩) n cap, .int .i64 a, .int .i64 b, .int .i64 k, .func (.func gc) #[] cb] w (Leaves R (swapR M a b k 0 s)) := by
  have hn := H.hn
  have eC := H.eC
  have HS := Lib.hid H.swap
  have HCl := Lib.hid H.cell
  have HD := Lib.hid H.drew
  have HG := Lib.hid H.guard
  have H0 := Lib.hid (And.intro hR hok)
  clear H hR hok
  go_enter Try.func148, Try.ntmps148
  go_wp2_with fail
  go_loopw [10] (fun vi wr => ∃ (i : Nat) (t : σ), i ≤ k ∧ vi = .int .i64 i ∧ Hid (R t wr ∧ swapR M a b (k - i) i t = swapR M a b k 0 s)) (fun vi _ => k - (intOf vi).toNat)
  case atStart => exact ⟨0, s, Nat.zero_le _, rfl, H0.out.1, rfl⟩
  case round =>
    obtain ⟨i, t, hi, rfl, HI⟩ := hrel
    by_cases hlt : i < k
    · have HE : Hid (swapR M a b (k - (i + 1)) (i + 1) (M.swap t (a + i) (b + i)) = swapR M a b k 0 s) := Lib.hid (by
        have := HI.out.2
        rw [show k - i = (k - (i + 1)) + 1 by omega] at this
        exact this)
      have hS := HS.out t wr (a + i) (b + i) (by omega) (by omega) HI.out.1 (ok_swapR HG.out a b (k - (i + 1)) (i + 1) _ (by rw [HE.out]; exact H0.out.2))
      obtain ⟨hx, fx⟩ := HCl.out t wr (a + i) (by omega) HI.out.1
      obtain ⟨hy, fy⟩ := HCl.out t wr (b + i) (by omega) HI.out.1
      generalize val t (a + i) = vx at hS hx
      generalize val t (b + i) = vy at hS hy
      obtain ⟨u1, s1⟩ := cell_staysB (p := ⟨g, (a + i), none⟩) (x := .int .i64 vy) hy
      have HR1 := Lib.hid (HD.out _ _ 1 hS); clear hS
      have iw0 : IntKind.i64.wrap ((a : Int) + (i : Int)) = (a : Int) + (i : Int) := IntWalk.i64_in _ (by omega)
      have iz0 : (0 : Int) ≤ (a : Int) + (i : Int) := by omega
      have il0 : (a : Int) + (i : Int) < (n : Int) := by omega
      have it0 : ((a : Int) + (i : Int)).toNat = a + i := by omega
      have iw1 : IntKind.i64.wrap ((b : Int) + (i : Int)) = (b : Int) + (i : Int) := IntWalk.i64_in _ (by omega)
      have iz1 : (0 : Int) ≤ (b : Int) + (i : Int) := by omega
      have il1 : (b : Int) + (i : Int) < (n : Int) := by omega
      have it1 : ((b : Int) + (i : Int)).toNat = b + i := by omega
      go_wp2_with fail
      go_region
      clear iw0 iz0 il0 it0 iw1 iz1 il1 it1 hx fx hy fy s1
      go_wp2_with fail
      go_roundw
      case rel => exact ⟨i + 1, M.swap t (a + i) (b + i), hlt, by go_num, HR1.out, HE.out⟩
      case measure => simp [intOf]; omega
    · go_wp2_with fail
      go_end0
      exact ⟨rfl, by
        have := HI.out.2
        rw [show k - i = 0 by omega] at this
        rw [← this]; exact HI.out.1⟩

set_option maxRecDepth 100000 in
set_option maxHeartbeats 4000000 in
theorem rotateN (H : CmpN M ok R val g cap gc cb n) (a m b : Nat) (ha : a < m) (hm : m < b) (hb : b ≤ n) (s : σ) (w : World) (hR : R s w) (hok : ok (rotate M a m b s)) :
    Calls Try.prog 140 #[.slice (some ⟨g, 0, none⟩) n cap, .int .i64 a, .int .i64 m, .int .i64 b, .func (.func gc) #[] cb] w (Leaves R (rotate M a m b s)) := by
  have hn := H.hn
  have HS := Lib.hid (fun a b k ha hb t wr => swapRangeN H a b k ha hb t wr)
  have HG := Lib.hid H.guard
  have H0 := Lib.hid (And.intro hR hok)
  clear H hR hok
  go_enter Try.func140, Try.ntmps140
  go_wp2_with fail
  go_loopw [10, 11] (fun vi vj wr => ∃ (i j f : Nat) (t : σ), 1 ≤ i ∧ 1 ≤ j ∧ i ≤ m ∧ m + j ≤ n ∧ vi = .int .i64 i ∧ vj = .int .i64 j ∧ i + j ≤ f ∧ Hid (R t wr ∧ rotL M m f i j t = rotate M a m b s)) (fun vi vj _ => (intOf vi).toNat + (intOf vj).toNat)
  case atStart => exact ⟨m - a, b - m, (m - a) + (b - m), s, by omega, by omega, by omega, by omega, by go_num, by go_num, Nat.le_refl _, H0.out.1, rfl⟩
  case round =>
    obtain ⟨i, j, f, t, hi, hj, him, hjn, rfl, rfl, hf, HI⟩ := hrel
    obtain ⟨f, rfl⟩ : ∃ g, f = g + 1 := ⟨f - 1, by omega⟩
    have cmi : ((m - i : Nat) : Int) = (m : Int) - (i : Int) := by omega
    have cmj : ((m + j - i : Nat) : Int) = (m : Int) + (j : Int) - (i : Int) := by omega
    have HM1 := Lib.hid cmi; have HM2 := Lib.hid cmj; clear cmi cmj
    by_cases hij : i = j
    · subst hij
      have hne : ((i : Int) != (i : Int)) = false := by simp
      have HE : Hid (swapR M (m - i) m i 0 t = rotate M a m b s) := Lib.hid (by
        have := HI.out.2
        unfold rotL at this
        rw [if_pos rfl] at this
        exact this)
      have hC := HS.out (m - i) m i (by omega) (by omega) t wr HI.out.1 (by rw [HE.out]; exact H0.out.2)
      rw [HM1.out] at hC
      have HC := Lib.hid hC; clear hC
      go_wp2_with fail
      refine HC.out.mono ?_
      rintro e w1 ⟨rfl, hR1⟩
      have HR1 := Lib.hid hR1; clear hR1
      go_wp2_with fail
      go_end0
      exact ⟨rfl, by rw [← HE.out]; exact HR1.out⟩
    · have hne : ((i : Int) != (j : Int)) = true := by simp; omega
      by_cases hgt : j < i
      · have hgz : (i : Int) > (j : Int) := by omega
        have HE : Hid (rotL M m f (i - j) j (swapR M (m - i) m j 0 t) = rotate M a m b s) := Lib.hid (by
          have := HI.out.2
          unfold rotL at this
          rw [if_neg hij, if_pos hgt] at this
          exact this)
        have hC := HS.out (m - i) m j (by omega) (by omega) t wr HI.out.1 (ok_rotL HG.out m f _ _ _ (by rw [HE.out]; exact H0.out.2))
        rw [HM1.out] at hC
        have HC := Lib.hid hC; clear hC
        go_wp2_with fail
        refine HC.out.mono ?_
        rintro e w1 ⟨rfl, hR1⟩
        have HR1 := Lib.hid hR1; clear hR1
        go_wp2_with fail
        go_roundw
        case rel => exact ⟨i - j, j, f, _, by omega, by omega, by omega, by omega, by go_num, rfl, by omega, HR1.out, HE.out⟩
        case measure => simp [intOf]; omega
      · have hgz : ¬ ((i : Int) > (j : Int)) := by omega
        have HE : Hid (rotL M m f i (j - i) (swapR M (m - i) (m + j - i) i 0 t) = rotate M a m b s) := Lib.hid (by
          have := HI.out.2
          unfold rotL at this
          rw [if_neg hij, if_neg hgt] at this
          exact this)
        have hC := HS.out (m - i) (m + j - i) i (by omega) (by omega) t wr HI.out.1 (ok_rotL HG.out m f _ _ _ (by rw [HE.out]; exact H0.out.2))
        rw [HM1.out, HM2.out] at hC
        have HC := Lib.hid hC; clear hC
        go_wp2_with fail
        refine HC.out.mono ?_
        rintro e w1 ⟨rfl, hR1⟩
        have HR1 := Lib.hid hR1; clear hR1
        go_wp2_with fail
        go_roundw
        case rel => exact ⟨i, j - i, f, _, by omega, by omega, by omega, by omega, rfl, by go_num, by omega, HR1.out, HE.out⟩
        case measure => simp [intOf]; omega

set_option maxRecDepth 100000 in
set_option maxHeartbeats 4000000 in
theorem insertionSortN (H : CmpN M ok R val g cap gc cb n) (a b : Nat) (hab : a ≤ b) (hb : b ≤ n) (s : σ) (w : World) (hR : R s w) (hok : ok (insSort M a b s)) :
    Calls Try.prog 111 #[.slice (some ⟨g, 0, none⟩) n cap, .int .i64 a, .int .i64 b, .func (.func gc) #[] cb] w (Leaves R (insSort M a b s)) := by
  have hn := H.hn
  have eC := H.eC
  have HS := Lib.hid H.swap
  have HL := Lib.hid H.cmp
  have HCl := Lib.hid H.cell
  have HD := Lib.hid H.drew
  have HG := Lib.hid H.guard
  have H0 := Lib.hid (And.intro hR hok)
  clear H hR hok
  go_enter Try.func111, Try.ntmps111
  go_wp2_with fail
  go_loopw [8] (fun vi wr => ∃ (i : Nat) (t : σ), a + 1 ≤ i ∧ (i ≤ b ∨ i = a + 1) ∧ vi = .int .i64 i ∧ Hid (R t wr ∧ insOuter M a (b - i) i t = insSort M a b s)) (fun vi _ => b - (intOf vi).toNat)
  case atStart => exact ⟨a + 1, s, Nat.le_refl _, .inr rfl, by go_num, H0.out.1, rfl⟩
  case round =>
    obtain ⟨i, t, hai, hib, rfl, HI⟩ := hrel
    by_cases hlt : i < b
    · have HE : Hid (insOuter M a (b - (i + 1)) (i + 1) (insInner M a i t) = insSort M a b s) := Lib.hid (by
        have := HI.out.2
        rw [show b - i = (b - (i + 1)) + 1 by omega] at this
        exact this)
      have HK : Hid (ok (insInner M a i t)) := Lib.hid (ok_insOuter HG.out a (b - (i + 1)) (i + 1) _ (by rw [HE.out]; exact H0.out.2))
      go_wp2_with fail
      go_loopw [9] (fun vj wr2 => ∃ (j : Nat) (u : σ), a ≤ j ∧ j ≤ i ∧ vj = .int .i64 j ∧ Hid (R u wr2 ∧ insInner M a j u = insInner M a i t)) (fun vj _ => (intOf vj).toNat)
      case atStart => exact ⟨i, t, by omega, Nat.le_refl _, rfl, HI.out.1, rfl⟩
      case round =>
        obtain ⟨j, u, haj, hji, rfl, HJ⟩ := hrel
        by_cases hja : a < j
        · obtain ⟨j, rfl⟩ : ∃ x, j = x + 1 := ⟨j - 1, by omega⟩
          have hin : insInner M a (j + 1) u = if M.less u (j + 1) j = true then insInner M a j (M.swap (M.tick u (j + 1) j) (j + 1) j) else M.tick u (j + 1) j := by
            show (if a < j + 1 then _ else _) = _
            rw [if_pos hja]
          have hjz : ((j + 1 : Nat) : Int) > (a : Int) := by omega
          have hcj : ((j : Nat) : Int) = ((j + 1 : Nat) : Int) - 1 := by omega
          have HJ1 := Lib.hid hcj; clear hcj
          have hj1n : j + 1 ≤ i ∧ j + 1 < n := by omega
          generalize hj1 : j + 1 = j1 at *
          have HJJ := Lib.hid hj1
          have hjj : j < j1 ∧ j1 ≤ j + 1 := by omega
          clear hj1
          have hjg : decide ((j1 : Int) > (a : Int)) = true := decide_eq_true (by omega)
          cases hv : M.less u j1 j
          · rw [hv, if_neg (by simp), HJ.out.2] at hin
            have HN := Lib.hid hin; clear hin
            have hC := HL.out u (wr.drewN 1) j1 j (by omega) (by omega) (HD.out _ _ 1 HJ.out.1) (by rw [← HN.out]; exact HK.out)
            rw [hv] at hC
            obtain ⟨hx, fx⟩ := HCl.out u wr j1 (by omega) HJ.out.1
            obtain ⟨hy, fy⟩ := HCl.out u wr j (by omega) HJ.out.1
            clear fx fy
            generalize val u j1 = vx at hC hx
            generalize val u j = vy at hC hy
            have HC := Lib.hid hC; clear hC hv
            have i1 : (1 : Int) ≤ (j1 : Int) := by omega
            have i2 : 1 ≤ j1 := by omega
            have iw0 : IntKind.i64.wrap ((j1 : Int) - 1) = (j1 : Int) - 1 := IntWalk.i64_in _ (by omega)
            have iz0 : (0 : Int) ≤ (j1 : Int) - 1 := by omega
            have il0 : (j1 : Int) - 1 < (n : Int) := by omega
            have it0 : ((j1 : Int) - 1).toNat = j := by omega
            have ib0 : ((j1 : Nat) : Int) < (n : Int) := by omega
            go_wp2_with fail
            go_still_tail 14, (by kernel_rfl)
            change wpList _ _ _ _ _ (wr.drewN 1)
            go_wp2_with fail
            refine HC.out.mono ?_
            rintro e w1 ⟨c0, rfl, hc0, hR1⟩
            have hc1 : ¬ (c0 < 0) := of_decide_eq_false hc0
            have hc2 : 0 ≤ c0 := by omega
            have HR1 := Lib.hid hR1; clear hR1 iw0 iz0 il0 it0
            clear hx hy
            go_wp2_with fail
            go_roundw
            case rel => exact ⟨i + 1, insInner M a i t, by omega, .inl (by omega), by go_num, by rw [HN.out]; exact HR1.out, HE.out⟩
            case measure => simp [intOf]; omega
          · rw [hv, if_pos rfl, HJ.out.2] at hin
            have hok1 : ok (M.swap (M.tick u j1 j) j1 j) := ok_insInner HG.out a j _ (by rw [← hin]; exact HK.out)
            have HN := Lib.hid hin; have HO1 := Lib.hid hok1; clear hin hok1
            have hC := HL.out u (wr.drewN 1) j1 j (by omega) (by omega) (HD.out _ _ 1 HJ.out.1) (HG.out.swap _ _ _ HO1.out)
            rw [hv] at hC
            obtain ⟨hx, fx⟩ := HCl.out u wr j1 (by omega) HJ.out.1
            obtain ⟨hy, fy⟩ := HCl.out u wr j (by omega) HJ.out.1
            clear fx fy
            generalize val u j1 = vx at hC hx
            generalize val u j = vy at hC hy
            have HC := Lib.hid hC; clear hC hv
            have i1 : (1 : Int) ≤ (j1 : Int) := by omega
            have i2 : 1 ≤ j1 := by omega
            have iw0 : IntKind.i64.wrap ((j1 : Int) - 1) = (j1 : Int) - 1 := IntWalk.i64_in _ (by omega)
            have iz0 : (0 : Int) ≤ (j1 : Int) - 1 := by omega
            have il0 : (j1 : Int) - 1 < (n : Int) := by omega
            have it0 : ((j1 : Int) - 1).toNat = j := by omega
            have ib0 : ((j1 : Nat) : Int) < (n : Int) := by omega
            go_wp2_with fail
            go_still_tail 14, (by kernel_rfl)
            change wpList _ _ _ _ _ (wr.drewN 1)
            go_wp2_with fail
            refine HC.out.mono ?_
            rintro e w1 ⟨c0, rfl, hc0, hR1⟩
            have hc1 : c0 < 0 := of_decide_eq_true hc0
            have HR1 := Lib.hid hR1; clear hR1 iw0 iz0 il0 it0
            clear hx hy
            go_wp2_with fail
            have hS := HS.out (M.tick u j1 j) w1 j1 j (by omega) (by omega) HR1.out HO1.out
            obtain ⟨hx, fx⟩ := HCl.out (M.tick u j1 j) w1 j1 (by omega) HR1.out
            obtain ⟨hy, fy⟩ := HCl.out (M.tick u j1 j) w1 j (by omega) HR1.out
            generalize val (M.tick u j1 j) j1 = vx at hS hx
            generalize val (M.tick u j1 j) j = vy at hS hy
            obtain ⟨u1, s1⟩ := cell_staysB (p := ⟨g, j1, none⟩) (x := .int .i64 vy) hy
            have HR2 := Lib.hid (HD.out _ _ 1 hS); clear hS
            have i1 : (1 : Int) ≤ (j1 : Int) := by omega
            have i2 : 1 ≤ j1 := by omega
            have iw0 : IntKind.i64.wrap ((j1 : Int) - 1) = (j1 : Int) - 1 := IntWalk.i64_in _ (by omega)
            have iz0 : (0 : Int) ≤ (j1 : Int) - 1 := by omega
            have il0 : (j1 : Int) - 1 < (n : Int) := by omega
            have it0 : ((j1 : Int) - 1).toNat = j := by omega
            have ib0 : ((j1 : Nat) : Int) < (n : Int) := by omega
            go_region
            clear iw0 iz0 il0 it0 hx fx hy fy s1
            go_wp2_with fail
            go_roundw
            case rel => exact ⟨j, _, by omega, by omega, by rw [HJ1.out], HR2.out, HN.out.symm⟩
            case measure => simp [intOf]; omega
        · have hjz : ¬ ((j : Int) > (a : Int)) := by omega
          have HN : Hid (insInner M a j u = u) := Lib.hid (by
            cases j with
            | zero => rfl
            | succ j => show (if a < j + 1 then _ else _) = _; rw [if_neg hja])
          have hjg : decide ((j : Int) > (a : Int)) = false := decide_eq_false hjz
          go_wp2_with fail
          go_quiet (fail)
          go_wp2_with fail
          go_roundw
          case rel => exact ⟨i + 1, insInner M a i t, by omega, .inl (by omega), by go_num, by rw [← HJ.out.2, HN.out]; exact HD.out _ _ _ HJ.out.1, HE.out⟩
          case measure => simp [intOf]; omega
    · go_wp2_with fail
      go_end0
      exact ⟨rfl, by
        have := HI.out.2
        rw [show b - i = 0 by omega] at this
        rw [← this]; exact HI.out.1⟩
end
end Go.Proofs.Ytjammaglboehcaa

namespace Go.Proofs.Ytjammaglboehcaa
open Go.RowKit Go.Proofs
set_option linter.unusedVariables false

section
variable {σ : Type} {M : Mach σ} {ok : σ → Prop} {R : σ → World → Prop} {val : σ → Nat → Int} {g cap gc n : Nat} {cb : Array Value}

set_option maxRecDepth 100000 in
set_option maxHeartbeats 4000000 in
theorem symMergeN1 (H : CmpN M ok R val g cap gc cb n) (f a m b : Nat) (ham : m = a + 1) (hmb : m < b) (hb : b ≤ n) (s : σ) (w : World) (hR : R s w) (hok : ok (symM M (f + 1) a m b s)) :
    Calls Try.prog 119 #[.slice (some ⟨g, 0, none⟩) n cap, .int .i64 a, .int .i64 m, .int .i64 b, .func (.func gc) #[] cb] w (Leaves R (symM M (f + 1) a m b s)) := by
  have hn := H.hn
  have eC := H.eC
  have HS := Lib.hid H.swap
  have HL := Lib.hid H.cmp
  have HCl := Lib.hid H.cell
  have HD := Lib.hid H.drew
  have HG := Lib.hid H.guard
  have hd1 : ((m : Int) - (a : Int) == 1) = true := by simp; omega
  have hd2 : (m : Int) - (a : Int) = 1 := by omega
  have hsy : symM M (f + 1) a m b s = swapR M a (a + 1) ((bsr M (fun h => h) (fun _ => a) true m b s).1 - 1 - a) 0 (bsr M (fun h => h) (fun _ => a) true m b s).2 := by
    show (if m - a = 1 then _ else _) = _
    rw [if_pos (by omega)]
  rw [hsy] at hok ⊢
  have HK := Lib.hid (ok_swapR HG.out _ _ _ _ _ hok)
  have H0 := Lib.hid (And.intro hR hok)
  have hlo : a < m ∧ m ≤ a + 1 := by omega
  clear H hR hok hsy ham
  go_enter Try.func119, Try.ntmps119
  go_wp2_with fail
  go_loopw [10, 11] (fun vi vj wr => ∃ (i j fu : Nat) (t : σ), m ≤ i ∧ i ≤ j ∧ j ≤ b ∧ vi = .int .i64 i ∧ vj = .int .i64 j ∧ j - i ≤ fu ∧ Hid (R t wr ∧ bsL M (fun h => h) (fun _ => a) true fu i j t = bsr M (fun h => h) (fun _ => a) true m b s)) (fun vi vj _ => (intOf vj).toNat - (intOf vi).toNat)
  case atStart => exact ⟨m, b, b - m, s, Nat.le_refl _, by omega, Nat.le_refl _, by go_num, by go_num, Nat.le_refl _, H0.out.1, rfl⟩
  case round =>
    obtain ⟨i, j, fu, t, hi, hij, hj, rfl, rfl, hfu, HI⟩ := hrel
    by_cases hlt : i < j
    · obtain ⟨fu, rfl⟩ : ∃ g, fu = g + 1 := ⟨fu - 1, by omega⟩
      have hm : i ≤ (i + j) / 2 ∧ (i + j) / 2 < j := by omega
      cases hv0 : M.less t ((i + j) / 2) a
      · skip
        have hv := hv0
        have HE := Lib.hid (HI.out.2.symm.trans (bsL_dn hlt (by rw [hv]; simp))); clear hv0
        generalize hh0 : (i + j) / 2 = h0 at *
        have HH0 := Lib.hid hh0
        have hhz : ((i : Int) + (j : Int)) / 2 = (h0 : Int) := by omega
        have hhb : h0 < n := by omega
        have hC := HL.out t (wr.drewN 1) h0 a (by omega) (by omega) (HD.out _ _ 1 HI.out.1) (ok_bsL HG.out _ _ _ _ _ _ _ (by rw [← HE.out]; exact HK.out))
        rw [hv] at hC
        obtain ⟨hx, fx⟩ := HCl.out t wr h0 (by omega) HI.out.1
        obtain ⟨hy, fy⟩ := HCl.out t wr a (by omega) HI.out.1
        clear fx fy
        generalize val t h0 = vx at hC hx
        generalize val t a = vy at hC hy
        have HC := Lib.hid hC; clear hC hv hh0
        have ib0 : ((a : Nat) : Int) < (n : Int) := by omega
        have ib1 : ((h0 : Nat) : Int) < (n : Int) := by omega
        go_wp2_with fail
        go_still_tail 9, (by kernel_rfl)
        change wpList _ _ _ _ _ (wr.drewN 1)
        go_wp2_with fail
        refine HC.out.mono ?_
        rintro e w1 ⟨c0, rfl, hc0, hR1⟩
        have hc1 : ¬ (c0 < 0) := of_decide_eq_false hc0
        have hc2 : 0 ≤ c0 := by omega
        have HR1 := Lib.hid hR1; clear hR1
        clear hx hy
        go_wp2_with fail
        go_roundw
        case rel => exact ⟨i, h0, fu, _, hi, by omega, by omega, rfl, rfl, by omega, HR1.out, HE.out.symm⟩
        case measure => simp [intOf]; omega
      · skip
        have hv := hv0
        have HE := Lib.hid (HI.out.2.symm.trans (bsL_up hlt hv)); clear hv0
        generalize hh0 : (i + j) / 2 = h0 at *
        have HH0 := Lib.hid hh0
        have hhz : ((i : Int) + (j : Int)) / 2 = (h0 : Int) := by omega
        have hhb : h0 < n := by omega
        have hC := HL.out t (wr.drewN 1) h0 a (by omega) (by omega) (HD.out _ _ 1 HI.out.1) (ok_bsL HG.out _ _ _ _ _ _ _ (by rw [← HE.out]; exact HK.out))
        rw [hv] at hC
        obtain ⟨hx, fx⟩ := HCl.out t wr h0 (by omega) HI.out.1
        obtain ⟨hy, fy⟩ := HCl.out t wr a (by omega) HI.out.1
        clear fx fy
        generalize val t h0 = vx at hC hx
        generalize val t a = vy at hC hy
        have HC := Lib.hid hC; clear hC hv hh0
        have ib0 : ((a : Nat) : Int) < (n : Int) := by omega
        have ib1 : ((h0 : Nat) : Int) < (n : Int) := by omega
        go_wp2_with fail
        go_still_tail 9, (by kernel_rfl)
        change wpList _ _ _ _ _ (wr.drewN 1)
        go_wp2_with fail
        refine HC.out.mono ?_
        rintro e w1 ⟨c0, rfl, hc0, hR1⟩
        have hc1 : c0 < 0 := of_decide_eq_true hc0
        have HR1 := Lib.hid hR1; clear hR1
        clear hx hy
        go_wp2_with fail
        go_roundw
        case rel => exact ⟨h0 + 1, j, fu, _, by omega, by omega, hj, by go_num, rfl, by omega, HR1.out, HE.out.symm⟩
        case measure => simp [intOf]; omega
    · obtain rfl : i = j := by omega
      have HE := Lib.hid (HI.out.2.symm.trans (bsL_stop (by omega))); clear hlt
      have HF : Hid (swapR M a (a + 1) ((bsr M (fun h => h) (fun _ => a) true m b s).1 - 1 - a) 0 (bsr M (fun h => h) (fun _ => a) true m b s).2 = swapR M a (a + 1) (i - 1 - a) 0 t) := Lib.hid (by rw [HE.out])
      have HO : Hid (ok (swapR M a (a + 1) (i - 1 - a) 0 t)) := Lib.hid (by rw [← HF.out]; exact H0.out.2)
      go_wp2_with fail
      go_loopw [13] (fun vk wr => ∃ (k : Nat) (u : σ), a ≤ k ∧ k ≤ i - 1 ∧ vk = .int .i64 k ∧ Hid (R u wr ∧ swapR M a (a + 1) (i - 1 - k) (k - a) u = swapR M a (a + 1) (i - 1 - a) 0 t)) (fun vk _ => i - (intOf vk).toNat)
      case atStart => exact ⟨a, t, Nat.le_refl _, by omega, rfl, HI.out.1, by rw [Nat.sub_self]⟩
      case round =>
        obtain ⟨k, u, hak, hki, rfl, HJ⟩ := hrel
        by_cases hlt : k < i - 1
        · have hlz : (k : Int) < (i : Int) - 1 := by omega
          have HN : Hid (swapR M a (a + 1) (i - 1 - (k + 1)) (k + 1 - a) (M.swap u k (k + 1)) = swapR M a (a + 1) (i - 1 - a) 0 t) := Lib.hid (by
            have := HJ.out.2
            rw [show i - 1 - k = (i - 1 - (k + 1)) + 1 by omega] at this
            rw [← this, show k + 1 - a = (k - a) + 1 by omega]
            show _ = swapR M a (a + 1) (i - 1 - (k + 1)) (k - a + 1) (M.swap u (a + (k - a)) (a + 1 + (k - a)))
            rw [show a + (k - a) = k by omega, show a + 1 + (k - a) = k + 1 by omega])
          have hS := HS.out u wr k (k + 1) (by omega) (by omega) HJ.out.1 (ok_swapR HG.out _ _ _ _ _ (by rw [HN.out]; exact HO.out))
          obtain ⟨hx, fx⟩ := HCl.out u wr k (by omega) HJ.out.1
          obtain ⟨hy, fy⟩ := HCl.out u wr (k + 1) (by omega) HJ.out.1
          generalize val u k = vx at hS hx
          generalize val u (k + 1) = vy at hS hy
          obtain ⟨u1, s1⟩ := cell_staysB (p := ⟨g, k, none⟩) (x := .int .i64 vy) hy
          have HR1 := Lib.hid (HD.out _ _ 1 hS); clear hS
          have iw0 : IntKind.i64.wrap ((k : Int) + 1) = (k : Int) + 1 := IntWalk.i64_in _ (by omega)
          have iz0 : (0 : Int) ≤ (k : Int) + 1 := by omega
          have il0 : (k : Int) + 1 < (n : Int) := by omega
          have it0 : ((k : Int) + 1).toNat = k + 1 := by omega
          have ib0 : ((k : Nat) : Int) < (n : Int) := by omega
          go_wp2_with fail
          go_region
          clear iw0 iz0 il0 it0 hx fx hy fy s1
          go_wp2_with fail
          go_roundw
          case rel => exact ⟨k + 1, _, by omega, by omega, by go_num, HR1.out, HN.out⟩
          case measure => simp [intOf]; omega
        · have hlz : ¬ ((k : Int) < (i : Int) - 1) := by omega
          go_wp2_with fail
          go_end0
          exact ⟨rfl, by
            have := HJ.out.2
            rw [show i - 1 - k = 0 by omega] at this
            rw [HF.out, ← this]; exact HJ.out.1⟩

set_option maxRecDepth 100000 in
set_option maxHeartbeats 4000000 in
theorem symMergeN2 (H : CmpN M ok R val g cap gc cb n) (f a m b : Nat) (ham : a + 1 < m) (hmb : b = m + 1) (hb : b ≤ n) (s : σ) (w : World) (hR : R s w) (hok : ok (symM M (f + 1) a m b s)) :
    Calls Try.prog 119 #[.slice (some ⟨g, 0, none⟩) n cap, .int .i64 a, .int .i64 m, .int .i64 b, .func (.func gc) #[] cb] w (Leaves R (symM M (f + 1) a m b s)) := by
  have hn := H.hn
  have eC := H.eC
  have HS := Lib.hid H.swap
  have HL := Lib.hid H.cmp
  have HCl := Lib.hid H.cell
  have HD := Lib.hid H.drew
  have HG := Lib.hid H.guard
  have hd1 : ((m : Int) - (a : Int) == 1) = false := by simp; omega
  have hd2 : ((b : Int) - (m : Int) == 1) = true := by simp; omega
  have hd3 : ¬ ((m : Int) - (a : Int) = 1) := by omega
  have hd4 : (b : Int) - (m : Int) = 1 := by omega
  have hsy : symM M (f + 1) a m b s = swapDn M (m - (bsr M (fun _ => m) (fun h => h) false a m s).1) m (bsr M (fun _ => m) (fun h => h) false a m s).2 := by
    show (if m - a = 1 then _ else if b - m = 1 then _ else _) = _
    rw [if_neg (by omega), if_pos (by omega)]
  rw [hsy] at hok ⊢
  have HK := Lib.hid (ok_swapDn HG.out _ _ _ hok)
  have H0 := Lib.hid (And.intro hR hok)
  have hlo : m < b ∧ b ≤ m + 1 := by omega
  clear H hR hok hsy hmb
  go_enter Try.func119, Try.ntmps119
  go_wp2_with fail
  go_loopw [14, 15] (fun vi vj wr => ∃ (i j fu : Nat) (t : σ), a ≤ i ∧ i ≤ j ∧ j ≤ m ∧ vi = .int .i64 i ∧ vj = .int .i64 j ∧ j - i ≤ fu ∧ Hid (R t wr ∧ bsL M (fun _ => m) (fun h => h) false fu i j t = bsr M (fun _ => m) (fun h => h) false a m s)) (fun vi vj _ => (intOf vj).toNat - (intOf vi).toNat)
  case atStart => exact ⟨a, m, m - a, s, Nat.le_refl _, by omega, Nat.le_refl _, by go_num, by go_num, Nat.le_refl _, H0.out.1, rfl⟩
  case round =>
    obtain ⟨i, j, fu, t, hi, hij, hj, rfl, rfl, hfu, HI⟩ := hrel
    by_cases hlt : i < j
    · obtain ⟨fu, rfl⟩ : ∃ g, fu = g + 1 := ⟨fu - 1, by omega⟩
      have hm : i ≤ (i + j) / 2 ∧ (i + j) / 2 < j := by omega
      cases hv0 : M.less t m ((i + j) / 2)
      · skip
        have hv := hv0
        have HE := Lib.hid (HI.out.2.symm.trans (bsL_up hlt hv)); clear hv0
        generalize hh0 : (i + j) / 2 = h0 at *
        have HH0 := Lib.hid hh0
        have hhz : ((i : Int) + (j : Int)) / 2 = (h0 : Int) := by omega
        have hhb : h0 < n := by omega
        have hC := HL.out t (wr.drewN 1) m h0 (by omega) (by omega) (HD.out _ _ 1 HI.out.1) (ok_bsL HG.out _ _ _ _ _ _ _ (by rw [← HE.out]; exact HK.out))
        rw [hv] at hC
        obtain ⟨hx, fx⟩ := HCl.out t wr m (by omega) HI.out.1
        obtain ⟨hy, fy⟩ := HCl.out t wr h0 (by omega) HI.out.1
        clear fx fy
        generalize val t m = vx at hC hx
        generalize val t h0 = vy at hC hy
        have HC := Lib.hid hC; clear hC hv hh0
        have ib0 : ((m : Nat) : Int) < (n : Int) := by omega
        have ib1 : ((h0 : Nat) : Int) < (n : Int) := by omega
        go_wp2_with fail
        go_still_tail 9, (by kernel_rfl)
        change wpList _ _ _ _ _ (wr.drewN 1)
        go_wp2_with fail
        refine HC.out.mono ?_
        rintro e w1 ⟨c0, rfl, hc0, hR1⟩
        have hc1 : ¬ (c0 < 0) := of_decide_eq_false hc0
        have hc2 : 0 ≤ c0 := by omega
        have HR1 := Lib.hid hR1; clear hR1
        clear hx hy
        go_wp2_with fail
        go_roundw
        case rel => exact ⟨h0 + 1, j, fu, _, by omega, by omega, hj, by go_num, rfl, by omega, HR1.out, HE.out.symm⟩
        case measure => simp [intOf]; omega
      · skip
        have hv := hv0
        have HE := Lib.hid (HI.out.2.symm.trans (bsL_dn hlt (by rw [hv]; simp))); clear hv0
        generalize hh0 : (i + j) / 2 = h0 at *
        have HH0 := Lib.hid hh0
        have hhz : ((i : Int) + (j : Int)) / 2 = (h0 : Int) := by omega
        have hhb : h0 < n := by omega
        have hC := HL.out t (wr.drewN 1) m h0 (by omega) (by omega) (HD.out _ _ 1 HI.out.1) (ok_bsL HG.out _ _ _ _ _ _ _ (by rw [← HE.out]; exact HK.out))
        rw [hv] at hC
        obtain ⟨hx, fx⟩ := HCl.out t wr m (by omega) HI.out.1
        obtain ⟨hy, fy⟩ := HCl.out t wr h0 (by omega) HI.out.1
        clear fx fy
        generalize val t m = vx at hC hx
        generalize val t h0 = vy at hC hy
        have HC := Lib.hid hC; clear hC hv hh0
        have ib0 : ((m : Nat) : Int) < (n : Int) := by omega
        have ib1 : ((h0 : Nat) : Int) < (n : Int) := by omega
        go_wp2_with fail
        go_still_tail 9, (by kernel_rfl)
        change wpList _ _ _ _ _ (wr.drewN 1)
        go_wp2_with fail
        refine HC.out.mono ?_
        rintro e w1 ⟨c0, rfl, hc0, hR1⟩
        have hc1 : c0 < 0 := of_decide_eq_true hc0
        have HR1 := Lib.hid hR1; clear hR1
        clear hx hy
        go_wp2_with fail
        go_roundw
        case rel => exact ⟨i, h0, fu, _, hi, by omega, by omega, rfl, rfl, by omega, HR1.out, HE.out.symm⟩
        case measure => simp [intOf]; omega
    · obtain rfl : i = j := by omega
      have HE := Lib.hid (HI.out.2.symm.trans (bsL_stop (by omega))); clear hlt
      have HF : Hid (swapDn M (m - (bsr M (fun _ => m) (fun h => h) false a m s).1) m (bsr M (fun _ => m) (fun h => h) false a m s).2 = swapDn M (m - i) m t) := Lib.hid (by rw [HE.out])
      have HO : Hid (ok (swapDn M (m - i) m t)) := Lib.hid (by rw [← HF.out]; exact H0.out.2)
      go_wp2_with fail
      go_loopw [17] (fun vk wr => ∃ (k : Nat) (u : σ), i ≤ k ∧ k ≤ m ∧ vk = .int .i64 k ∧ Hid (R u wr ∧ swapDn M (k - i) k u = swapDn M (m - i) m t)) (fun vk _ => (intOf vk).toNat)
      case atStart => exact ⟨m, t, by omega, Nat.le_refl _, rfl, HI.out.1, rfl⟩
      case round =>
        obtain ⟨k, u, hik, hkm, rfl, HJ⟩ := hrel
        by_cases hlt : i < k
        · obtain ⟨k, rfl⟩ : ∃ x, k = x + 1 := ⟨k - 1, by omega⟩
          have HN : Hid (swapDn M (k - i) k (M.swap u (k + 1) k) = swapDn M (m - i) m t) := Lib.hid (by
            have := HJ.out.2
            rw [show k + 1 - i = (k - i) + 1 by omega] at this
            exact this)
          have hck : ((k : Nat) : Int) = ((k + 1 : Nat) : Int) - 1 := by omega
          have hgz : ((k + 1 : Nat) : Int) > (i : Int) := by omega
          have HKc := Lib.hid hck; clear hck
          have hkk : k + 1 < n := by omega
          generalize hk1 : k + 1 = k1 at *
          have hk2 : k < k1 ∧ k1 ≤ k + 1 := by omega
          clear hk1
          have hS := HS.out u wr k1 k (by omega) (by omega) HJ.out.1 (ok_swapDn HG.out _ _ _ (by rw [HN.out]; exact HO.out))
          obtain ⟨hx, fx⟩ := HCl.out u wr k1 (by omega) HJ.out.1
          obtain ⟨hy, fy⟩ := HCl.out u wr k (by omega) HJ.out.1
          generalize val u k1 = vx at hS hx
          generalize val u k = vy at hS hy
          obtain ⟨u1, s1⟩ := cell_staysB (p := ⟨g, k1, none⟩) (x := .int .i64 vy) hy
          have HR1 := Lib.hid (HD.out _ _ 1 hS); clear hS
          have i1 : (1 : Int) ≤ (k1 : Int) := by omega
          have i2 : 1 ≤ k1 := by omega
          have iw0 : IntKind.i64.wrap ((k1 : Int) - 1) = (k1 : Int) - 1 := IntWalk.i64_in _ (by omega)
          have iz0 : (0 : Int) ≤ (k1 : Int) - 1 := by omega
          have il0 : (k1 : Int) - 1 < (n : Int) := by omega
          have it0 : ((k1 : Int) - 1).toNat = k := by omega
          have ib0 : ((k1 : Nat) : Int) < (n : Int) := by omega
          go_wp2_with fail
          go_region
          clear iw0 iz0 il0 it0 hx fx hy fy s1
          go_wp2_with fail
          go_roundw
          case rel => exact ⟨k, _, by omega, by omega, by rw [HKc.out], HR1.out, HN.out⟩
          case measure => simp [intOf]; omega
        · have hgz : ¬ ((k : Int) > (i : Int)) := by omega
          go_wp2_with fail
          go_end0
          exact ⟨rfl, by
            have := HJ.out.2
            rw [show k - i = 0 by omega] at this
            rw [HF.out, ← this]; exact HJ.out.1⟩
end
end Go.Proofs.Ytjammaglboehcaa

namespace Go.Proofs.Ytjammaglboehcaa
open Go.RowKit Go.Proofs
set_option linter.unusedVariables false

section
variable {σ : Type} {M : Mach σ} {ok : σ → Prop} {R : σ → World → Prop} {val : σ → Nat → Int} {g cap gc n : Nat} {cb : Array Value}


set_option maxRecDepth 100000 in
set_option maxHeartbeats 8000000 in
theorem symMergeN3b (H : CmpN M ok R val g cap gc cb n) (f a m b : Nat) (ham : a + 1 < m) (hmb : m + 1 < b) (hb : b ≤ n) (hcd : (a + b) / 2 < m) (s : σ) (w : World) (hR : R s w) (hok : ok (symM M (f + 1) a m b s))
    (IH : ∀ (a m b : Nat) (s : σ) (w : World), a < m → m < b → b ≤ n → b - a ≤ f → R s w → ok (symM M f a m b s) → Calls Try.prog 119 #[.slice (some ⟨g, 0, none⟩) n cap, .int .i64 a, .int .i64 m, .int .i64 b, .func (.func gc) #[] cb] w (Leaves R (symM M f a m b s))) (hf : b - a ≤ f + 1) :
    Calls Try.prog 119 #[.slice (some ⟨g, 0, none⟩) n cap, .int .i64 a, .int .i64 m, .int .i64 b, .func (.func gc) #[] cb] w (Leaves R (symM M (f + 1) a m b s)) := by
  have hn := H.hn
  have eC := H.eC
  have HS := Lib.hid H.swap
  have HL := Lib.hid H.cmp
  have HCl := Lib.hid H.cell
  have HD := Lib.hid H.drew
  have HG := Lib.hid H.guard
  have HIH := Lib.hid IH; clear IH
  have HRo := Lib.hid (fun a m b ha hm hb t wr => rotateN H a m b ha hm hb t wr)
  have hd1 : ((m : Int) - (a : Int) == 1) = false := by simp; omega
  have hd2 : ((b : Int) - (m : Int) == 1) = false := by simp; omega
  have hd3 : ¬ ((m : Int) - (a : Int) = 1) := by omega
  have hd4 : ¬ ((b : Int) - (m : Int) = 1) := by omega
  generalize hmid : (a + b) / 2 = mid at *
  have hmz : ((a : Int) + (b : Int)) / 2 = (mid : Int) := by omega
  have hd5 : (m : Int) > (mid : Int) := by omega
  have hst : symMStart M a m b s = bsr M (fun c => mid + m - 1 - c) (fun c => c) false (mid + m - b) (mid) s := by
    unfold symMStart
    rw [hmid, if_pos hcd]
  have hsy : symM M (f + 1) a m b s = symTail M f a m b mid (bsr M (fun c => mid + m - 1 - c) (fun c => c) false (mid + m - b) (mid) s).1 (bsr M (fun c => mid + m - 1 - c) (fun c => c) false (mid + m - b) (mid) s).2 := by
    show (if m - a = 1 then _ else if b - m = 1 then _ else _) = _
    rw [if_neg (by omega), if_neg (by omega), ← hst, ← hmid]
    rfl
  rw [hsy] at hok ⊢
  have HK := Lib.hid (ok_symTail HG.out _ _ _ _ _ _ _ hok)
  have H0 := Lib.hid (And.intro hR hok)
  have hlo : a < mid ∧ mid < b ∧ 2 * mid ≤ a + b ∧ a + b ≤ 2 * mid + 1 := by omega
  clear H hR hok hsy hst hmid
  go_enter Try.func119, Try.ntmps119
  go_wp2_with fail
  go_loopw [20, 21] (fun vi vj wr => ∃ (i j fu : Nat) (t : σ), (mid + m - b) ≤ i ∧ i ≤ j ∧ j ≤ (mid) ∧ vi = .int .i64 i ∧ vj = .int .i64 j ∧ j - i ≤ fu ∧ Hid (R t wr ∧ bsL M (fun c => mid + m - 1 - c) (fun c => c) false fu i j t = bsr M (fun c => mid + m - 1 - c) (fun c => c) false (mid + m - b) (mid) s)) (fun vi vj _ => (intOf vj).toNat - (intOf vi).toNat)
  case atStart => exact ⟨(mid + m - b), (mid), (mid) - (mid + m - b), s, Nat.le_refl _, by omega, Nat.le_refl _, by go_num, by go_num, Nat.le_refl _, H0.out.1, rfl⟩
  case round =>
    obtain ⟨i, j, fu, t, hi, hij, hj, rfl, rfl, hfu, HI⟩ := hrel
    by_cases hlt : i < j
    · obtain ⟨fu, rfl⟩ : ∃ g, fu = g + 1 := ⟨fu - 1, by omega⟩
      have hm : i ≤ (i + j) / 2 ∧ (i + j) / 2 < j := by omega
      cases hv0 : M.less t (mid + m - 1 - (i + j) / 2) ((i + j) / 2)
      · skip
        have hv := hv0
        have HE := Lib.hid (HI.out.2.symm.trans (bsL_up hlt hv)); clear hv0
        generalize hh0 : (i + j) / 2 = h0 at *
        have HH0 := Lib.hid hh0
        have hhz : ((i : Int) + (j : Int)) / 2 = (h0 : Int) := by omega
        have hhb : h0 < n := by omega
        have hC := HL.out t (wr.drewN 1) ((mid + m - 1 - h0)) h0 (by omega) (by omega) (HD.out _ _ 1 HI.out.1) (ok_bsL HG.out _ _ _ _ _ _ _ (by rw [← HE.out]; exact HK.out))
        rw [hv] at hC
        obtain ⟨hx, fx⟩ := HCl.out t wr ((mid + m - 1 - h0)) (by omega) HI.out.1
        obtain ⟨hy, fy⟩ := HCl.out t wr h0 (by omega) HI.out.1
        clear fx fy
        generalize val t ((mid + m - 1 - h0)) = vx at hC hx
        generalize val t h0 = vy at hC hy
        have HC := Lib.hid hC; clear hC hv hh0
        have i3 : (h0 : Int) ≤ (mid : Int) + (m : Int) - 1 := by omega
        have i4 : (h0 : Int) < (mid : Int) + (m : Int) := by omega
        have iw0 : IntKind.i64.wrap ((mid : Int) + (m : Int) - 1 - ((h0 : Nat) : Int)) = (mid : Int) + (m : Int) - 1 - ((h0 : Nat) : Int) := IntWalk.i64_in _ (by omega)
        have iz0 : (0 : Int) ≤ (mid : Int) + (m : Int) - 1 - ((h0 : Nat) : Int) := by omega
        have il0 : (mid : Int) + (m : Int) - 1 - ((h0 : Nat) : Int) < (n : Int) := by omega
        have it0 : ((mid : Int) + (m : Int) - 1 - ((h0 : Nat) : Int)).toNat = mid + m - 1 - h0 := by omega
        have ib0 : ((h0 : Nat) : Int) < (n : Int) := by omega
        go_wp2_with fail
        go_still_tail 11, (by kernel_rfl)
        change wpList _ _ _ _ _ (wr.drewN 1)
        go_wp2_with fail
        refine HC.out.mono ?_
        rintro e w1 ⟨c0, rfl, hc0, hR1⟩
        have hc1 : ¬ (c0 < 0) := of_decide_eq_false hc0
        have hc2 : 0 ≤ c0 := by omega
        have HR1 := Lib.hid hR1; clear hR1 iw0 iz0 il0 it0
        clear hx hy
        go_wp2_with fail
        go_roundw
        case rel => exact ⟨h0 + 1, j, fu, _, by omega, by omega, hj, by go_num, rfl, by omega, HR1.out, HE.out.symm⟩
        case measure => simp [intOf]; omega
      · skip
        have hv := hv0
        have HE := Lib.hid (HI.out.2.symm.trans (bsL_dn hlt (by rw [hv]; simp))); clear hv0
        generalize hh0 : (i + j) / 2 = h0 at *
        have HH0 := Lib.hid hh0
        have hhz : ((i : Int) + (j : Int)) / 2 = (h0 : Int) := by omega
        have hhb : h0 < n := by omega
        have hC := HL.out t (wr.drewN 1) ((mid + m - 1 - h0)) h0 (by omega) (by omega) (HD.out _ _ 1 HI.out.1) (ok_bsL HG.out _ _ _ _ _ _ _ (by rw [← HE.out]; exact HK.out))
        rw [hv] at hC
        obtain ⟨hx, fx⟩ := HCl.out t wr ((mid + m - 1 - h0)) (by omega) HI.out.1
        obtain ⟨hy, fy⟩ := HCl.out t wr h0 (by omega) HI.out.1
        clear fx fy
        generalize val t ((mid + m - 1 - h0)) = vx at hC hx
        generalize val t h0 = vy at hC hy
        have HC := Lib.hid hC; clear hC hv hh0
        have i3 : (h0 : Int) ≤ (mid : Int) + (m : Int) - 1 := by omega
        have i4 : (h0 : Int) < (mid : Int) + (m : Int) := by omega
        have iw0 : IntKind.i64.wrap ((mid : Int) + (m : Int) - 1 - ((h0 : Nat) : Int)) = (mid : Int) + (m : Int) - 1 - ((h0 : Nat) : Int) := IntWalk.i64_in _ (by omega)
        have iz0 : (0 : Int) ≤ (mid : Int) + (m : Int) - 1 - ((h0 : Nat) : Int) := by omega
        have il0 : (mid : Int) + (m : Int) - 1 - ((h0 : Nat) : Int) < (n : Int) := by omega
        have it0 : ((mid : Int) + (m : Int) - 1 - ((h0 : Nat) : Int)).toNat = mid + m - 1 - h0 := by omega
        have ib0 : ((h0 : Nat) : Int) < (n : Int) := by omega
        go_wp2_with fail
        go_still_tail 11, (by kernel_rfl)
        change wpList _ _ _ _ _ (wr.drewN 1)
        go_wp2_with fail
        refine HC.out.mono ?_
        rintro e w1 ⟨c0, rfl, hc0, hR1⟩
        have hc1 : c0 < 0 := of_decide_eq_true hc0
        have HR1 := Lib.hid hR1; clear hR1 iw0 iz0 il0 it0
        clear hx hy
        go_wp2_with fail
        go_roundw
        case rel => exact ⟨i, h0, fu, _, hi, by omega, by omega, rfl, rfl, by omega, HR1.out, HE.out.symm⟩
        case measure => simp [intOf]; omega
    · obtain rfl : i = j := by omega
      have HE := Lib.hid (HI.out.2.symm.trans (bsL_stop (by omega))); clear hlt
      obtain ⟨e, heN⟩ : ∃ e : Nat, mid + m - i = e := ⟨_, rfl⟩
      have hez : (mid : Int) + (m : Int) - (i : Int) = (e : Int) := by omega
      have hee : e + i = mid + m := by omega
      have HeN := Lib.hid heN; clear heN
      by_cases him : i < mid
      · by_cases hai : a < i
        · by_cases heb : e < b
          · skip
            have hq00 : (i : Int) < (m : Int) := by omega
            have hq01 : (m : Int) < (e : Int) := by omega
            have hq10 : (a : Int) < (i : Int) := by omega
            have hq11 : (i : Int) < (mid : Int) := by omega
            have hq20 : (mid : Int) < (e : Int) := by omega
            have hq21 : (e : Int) < (b : Int) := by omega
            have HT : Hid (symTail M f a m b mid (bsr M (fun c => mid + m - 1 - c) (fun c => c) false (mid + m - b) (mid) s).1 (bsr M (fun c => mid + m - 1 - c) (fun c => c) false (mid + m - b) (mid) s).2 = symM M f mid e b (symM M f a i mid (rotate M i m e t))) := Lib.hid (by
              rw [HE.out]
              unfold symTail
              dsimp only
              rw [HeN.out, if_pos (show i < m ∧ m < e by omega), if_pos (show a < i ∧ i < mid by omega), if_pos (show mid < e ∧ e < b by omega)])
            have HO : Hid (ok (symM M f mid e b (symM M f a i mid (rotate M i m e t)))) := Lib.hid (by rw [← HT.out]; exact H0.out.2)
            go_wp2_with fail
            refine (HRo.out i m e (by omega) (by omega) (by omega) _ _ HI.out.1 (ok_symM HG.out f _ _ _ _ (ok_symM HG.out f _ _ _ _ (HO.out)))).mono ?_
            rintro ed v1 ⟨rfl, hr1⟩
            have V1 := Lib.hid hr1; clear hr1
            go_wp2_with fail
            refine (HIH.out a i mid _ _ (by omega) (by omega) (by omega) (by omega) V1.out (ok_symM HG.out f _ _ _ _ (HO.out))).mono ?_
            rintro ed v2 ⟨rfl, hr2⟩
            have V2 := Lib.hid hr2; clear hr2
            go_wp2_with fail
            refine (HIH.out mid e b _ _ (by omega) (by omega) (by omega) (by omega) V2.out (HO.out)).mono ?_
            rintro ed v3 ⟨rfl, hr3⟩
            have V3 := Lib.hid hr3; clear hr3
            go_wp2_with fail
            go_end0
            exact ⟨rfl, by rw [HT.out]; exact V3.out⟩
          · skip
            have hq00 : (i : Int) < (m : Int) := by omega
            have hq01 : (m : Int) < (e : Int) := by omega
            have hq10 : (a : Int) < (i : Int) := by omega
            have hq11 : (i : Int) < (mid : Int) := by omega
            have hq20 : (mid : Int) < (e : Int) := by omega
            have hq21 : ¬ ((e : Int) < (b : Int)) := by omega
            have HT : Hid (symTail M f a m b mid (bsr M (fun c => mid + m - 1 - c) (fun c => c) false (mid + m - b) (mid) s).1 (bsr M (fun c => mid + m - 1 - c) (fun c => c) false (mid + m - b) (mid) s).2 = symM M f a i mid (rotate M i m e t)) := Lib.hid (by
              rw [HE.out]
              unfold symTail
              dsimp only
              rw [HeN.out, if_pos (show i < m ∧ m < e by omega), if_pos (show a < i ∧ i < mid by omega), if_neg (show ¬ (mid < e ∧ e < b) by omega)])
            have HO : Hid (ok (symM M f a i mid (rotate M i m e t))) := Lib.hid (by rw [← HT.out]; exact H0.out.2)
            go_wp2_with fail
            refine (HRo.out i m e (by omega) (by omega) (by omega) _ _ HI.out.1 (ok_symM HG.out f _ _ _ _ (HO.out))).mono ?_
            rintro ed v1 ⟨rfl, hr1⟩
            have V1 := Lib.hid hr1; clear hr1
            go_wp2_with fail
            refine (HIH.out a i mid _ _ (by omega) (by omega) (by omega) (by omega) V1.out (HO.out)).mono ?_
            rintro ed v2 ⟨rfl, hr2⟩
            have V2 := Lib.hid hr2; clear hr2
            go_wp2_with fail
            go_end0
            exact ⟨rfl, by rw [HT.out]; exact V2.out⟩
        · by_cases heb : e < b
          · skip
            have hq00 : (i : Int) < (m : Int) := by omega
            have hq01 : (m : Int) < (e : Int) := by omega
            have hq10 : ¬ ((a : Int) < (i : Int)) := by omega
            have hq20 : (mid : Int) < (e : Int) := by omega
            have hq21 : (e : Int) < (b : Int) := by omega
            have HT : Hid (symTail M f a m b mid (bsr M (fun c => mid + m - 1 - c) (fun c => c) false (mid + m - b) (mid) s).1 (bsr M (fun c => mid + m - 1 - c) (fun c => c) false (mid + m - b) (mid) s).2 = symM M f mid e b (rotate M i m e t)) := Lib.hid (by
              rw [HE.out]
              unfold symTail
              dsimp only
              rw [HeN.out, if_pos (show i < m ∧ m < e by omega), if_neg (show ¬ (a < i ∧ i < mid) by omega), if_pos (show mid < e ∧ e < b by omega)])
            have HO : Hid (ok (symM M f mid e b (rotate M i m e t))) := Lib.hid (by rw [← HT.out]; exact H0.out.2)
            go_wp2_with fail
            refine (HRo.out i m e (by omega) (by omega) (by omega) _ _ HI.out.1 (ok_symM HG.out f _ _ _ _ (HO.out))).mono ?_
            rintro ed v1 ⟨rfl, hr1⟩
            have V1 := Lib.hid hr1; clear hr1
            go_wp2_with fail
            refine (HIH.out mid e b _ _ (by omega) (by omega) (by omega) (by omega) V1.out (HO.out)).mono ?_
            rintro ed v2 ⟨rfl, hr2⟩
            have V2 := Lib.hid hr2; clear hr2
            go_wp2_with fail
            go_end0
            exact ⟨rfl, by rw [HT.out]; exact V2.out⟩
          · skip
            have hq00 : (i : Int) < (m : Int) := by omega
            have hq01 : (m : Int) < (e : Int) := by omega
            have hq10 : ¬ ((a : Int) < (i : Int)) := by omega
            have hq20 : (mid : Int) < (e : Int) := by omega
            have hq21 : ¬ ((e : Int) < (b : Int)) := by omega
            have HT : Hid (symTail M f a m b mid (bsr M (fun c => mid + m - 1 - c) (fun c => c) false (mid + m - b) (mid) s).1 (bsr M (fun c => mid + m - 1 - c) (fun c => c) false (mid + m - b) (mid) s).2 = rotate M i m e t) := Lib.hid (by
              rw [HE.out]
              unfold symTail
              dsimp only
              rw [HeN.out, if_pos (show i < m ∧ m < e by omega), if_neg (show ¬ (a < i ∧ i < mid) by omega), if_neg (show ¬ (mid < e ∧ e < b) by omega)])
            have HO : Hid (ok (rotate M i m e t)) := Lib.hid (by rw [← HT.out]; exact H0.out.2)
            go_wp2_with fail
            refine (HRo.out i m e (by omega) (by omega) (by omega) _ _ HI.out.1 (HO.out)).mono ?_
            rintro ed v1 ⟨rfl, hr1⟩
            have V1 := Lib.hid hr1; clear hr1
            go_wp2_with fail
            go_end0
            exact ⟨rfl, by rw [HT.out]; exact V1.out⟩
      · skip
        have hq00 : (i : Int) < (m : Int) := by omega
        have hq01 : ¬ ((m : Int) < (e : Int)) := by omega
        have hq10 : (a : Int) < (i : Int) := by omega
        have hq11 : ¬ ((i : Int) < (mid : Int)) := by omega
        have hq20 : (mid : Int) < (e : Int) := by omega
        have hq21 : (e : Int) < (b : Int) := by omega
        have HT : Hid (symTail M f a m b mid (bsr M (fun c => mid + m - 1 - c) (fun c => c) false (mid + m - b) (mid) s).1 (bsr M (fun c => mid + m - 1 - c) (fun c => c) false (mid + m - b) (mid) s).2 = symM M f mid e b (t)) := Lib.hid (by
          rw [HE.out]
          unfold symTail
          dsimp only
          rw [HeN.out, if_neg (show ¬ (i < m ∧ m < e) by omega), if_neg (show ¬ (a < i ∧ i < mid) by omega), if_pos (show mid < e ∧ e < b by omega)])
        have HO : Hid (ok (symM M f mid e b (t))) := Lib.hid (by rw [← HT.out]; exact H0.out.2)
        go_wp2_with fail
        refine (HIH.out mid e b _ _ (by omega) (by omega) (by omega) (by omega) HI.out.1 (HO.out)).mono ?_
        rintro ed v1 ⟨rfl, hr1⟩
        have V1 := Lib.hid hr1; clear hr1
        go_wp2_with fail
        go_end0
        exact ⟨rfl, by rw [HT.out]; exact V1.out⟩

set_option maxRecDepth 100000 in
set_option maxHeartbeats 8000000 in
theorem symMergeN3a (H : CmpN M ok R val g cap gc cb n) (f a m b : Nat) (ham : a + 1 < m) (hmb : m + 1 < b) (hb : b ≤ n) (hcd : m ≤ (a + b) / 2) (s : σ) (w : World) (hR : R s w) (hok : ok (symM M (f + 1) a m b s))
    (IH : ∀ (a m b : Nat) (s : σ) (w : World), a < m → m < b → b ≤ n → b - a ≤ f → R s w → ok (symM M f a m b s) → Calls Try.prog 119 #[.slice (some ⟨g, 0, none⟩) n cap, .int .i64 a, .int .i64 m, .int .i64 b, .func (.func gc) #[] cb] w (Leaves R (symM M f a m b s))) (hf : b - a ≤ f + 1) :
    Calls Try.prog 119 #[.slice (some ⟨g, 0, none⟩) n cap, .int .i64 a, .int .i64 m, .int .i64 b, .func (.func gc) #[] cb] w (Leaves R (symM M (f + 1) a m b s)) := by
  have hn := H.hn
  have eC := H.eC
  have HS := Lib.hid H.swap
  have HL := Lib.hid H.cmp
  have HCl := Lib.hid H.cell
  have HD := Lib.hid H.drew
  have HG := Lib.hid H.guard
  have HIH := Lib.hid IH; clear IH
  have HRo := Lib.hid (fun a m b ha hm hb t wr => rotateN H a m b ha hm hb t wr)
  have hd1 : ((m : Int) - (a : Int) == 1) = false := by simp; omega
  have hd2 : ((b : Int) - (m : Int) == 1) = false := by simp; omega
  have hd3 : ¬ ((m : Int) - (a : Int) = 1) := by omega
  have hd4 : ¬ ((b : Int) - (m : Int) = 1) := by omega
  generalize hmid : (a + b) / 2 = mid at *
  have hmz : ((a : Int) + (b : Int)) / 2 = (mid : Int) := by omega
  have hd5 : ¬ ((m : Int) > (mid : Int)) := by omega
  have hst : symMStart M a m b s = bsr M (fun c => mid + m - 1 - c) (fun c => c) false (a) (m) s := by
    unfold symMStart
    rw [hmid, if_neg (Nat.not_lt.2 hcd)]
  have hsy : symM M (f + 1) a m b s = symTail M f a m b mid (bsr M (fun c => mid + m - 1 - c) (fun c => c) false (a) (m) s).1 (bsr M (fun c => mid + m - 1 - c) (fun c => c) false (a) (m) s).2 := by
    show (if m - a = 1 then _ else if b - m = 1 then _ else _) = _
    rw [if_neg (by omega), if_neg (by omega), ← hst, ← hmid]
    rfl
  rw [hsy] at hok ⊢
  have HK := Lib.hid (ok_symTail HG.out _ _ _ _ _ _ _ hok)
  have H0 := Lib.hid (And.intro hR hok)
  have hlo : a < mid ∧ mid < b ∧ 2 * mid ≤ a + b ∧ a + b ≤ 2 * mid + 1 := by omega
  clear H hR hok hsy hst hmid
  go_enter Try.func119, Try.ntmps119
  go_wp2_with fail
  go_loopw [20, 21] (fun vi vj wr => ∃ (i j fu : Nat) (t : σ), (a) ≤ i ∧ i ≤ j ∧ j ≤ (m) ∧ vi = .int .i64 i ∧ vj = .int .i64 j ∧ j - i ≤ fu ∧ Hid (R t wr ∧ bsL M (fun c => mid + m - 1 - c) (fun c => c) false fu i j t = bsr M (fun c => mid + m - 1 - c) (fun c => c) false (a) (m) s)) (fun vi vj _ => (intOf vj).toNat - (intOf vi).toNat)
  case atStart => exact ⟨(a), (m), (m) - (a), s, Nat.le_refl _, by omega, Nat.le_refl _, by go_num, by go_num, Nat.le_refl _, H0.out.1, rfl⟩
  case round =>
    obtain ⟨i, j, fu, t, hi, hij, hj, rfl, rfl, hfu, HI⟩ := hrel
    by_cases hlt : i < j
    · obtain ⟨fu, rfl⟩ : ∃ g, fu = g + 1 := ⟨fu - 1, by omega⟩
      have hm : i ≤ (i + j) / 2 ∧ (i + j) / 2 < j := by omega
      cases hv0 : M.less t (mid + m - 1 - (i + j) / 2) ((i + j) / 2)
      · skip
        have hv := hv0
        have HE := Lib.hid (HI.out.2.symm.trans (bsL_up hlt hv)); clear hv0
        generalize hh0 : (i + j) / 2 = h0 at *
        have HH0 := Lib.hid hh0
        have hhz : ((i : Int) + (j : Int)) / 2 = (h0 : Int) := by omega
        have hhb : h0 < n := by omega
        have hC := HL.out t (wr.drewN 1) ((mid + m - 1 - h0)) h0 (by omega) (by omega) (HD.out _ _ 1 HI.out.1) (ok_bsL HG.out _ _ _ _ _ _ _ (by rw [← HE.out]; exact HK.out))
        rw [hv] at hC
        obtain ⟨hx, fx⟩ := HCl.out t wr ((mid + m - 1 - h0)) (by omega) HI.out.1
        obtain ⟨hy, fy⟩ := HCl.out t wr h0 (by omega) HI.out.1
        clear fx fy
        generalize val t ((mid + m - 1 - h0)) = vx at hC hx
        generalize val t h0 = vy at hC hy
        have HC := Lib.hid hC; clear hC hv hh0
        have i3 : (h0 : Int) ≤ (mid : Int) + (m : Int) - 1 := by omega
        have i4 : (h0 : Int) < (mid : Int) + (m : Int) := by omega
        have iw0 : IntKind.i64.wrap ((mid : Int) + (m : Int) - 1 - ((h0 : Nat) : Int)) = (mid : Int) + (m : Int) - 1 - ((h0 : Nat) : Int) := IntWalk.i64_in _ (by omega)
        have iz0 : (0 : Int) ≤ (mid : Int) + (m : Int) - 1 - ((h0 : Nat) : Int) := by omega
        have il0 : (mid : Int) + (m : Int) - 1 - ((h0 : Nat) : Int) < (n : Int) := by omega
        have it0 : ((mid : Int) + (m : Int) - 1 - ((h0 : Nat) : Int)).toNat = mid + m - 1 - h0 := by omega
        have ib0 : ((h0 : Nat) : Int) < (n : Int) := by omega
        go_wp2_with fail
        go_still_tail 11, (by kernel_rfl)
        change wpList _ _ _ _ _ (wr.drewN 1)
        go_wp2_with fail
        refine HC.out.mono ?_
        rintro e w1 ⟨c0, rfl, hc0, hR1⟩
        have hc1 : ¬ (c0 < 0) := of_decide_eq_false hc0
        have hc2 : 0 ≤ c0 := by omega
        have HR1 := Lib.hid hR1; clear hR1 iw0 iz0 il0 it0
        clear hx hy
        go_wp2_with fail
        go_roundw
        case rel => exact ⟨h0 + 1, j, fu, _, by omega, by omega, hj, by go_num, rfl, by omega, HR1.out, HE.out.symm⟩
        case measure => simp [intOf]; omega
      · skip
        have hv := hv0
        have HE := Lib.hid (HI.out.2.symm.trans (bsL_dn hlt (by rw [hv]; simp))); clear hv0
        generalize hh0 : (i + j) / 2 = h0 at *
        have HH0 := Lib.hid hh0
        have hhz : ((i : Int) + (j : Int)) / 2 = (h0 : Int) := by omega
        have hhb : h0 < n := by omega
        have hC := HL.out t (wr.drewN 1) ((mid + m - 1 - h0)) h0 (by omega) (by omega) (HD.out _ _ 1 HI.out.1) (ok_bsL HG.out _ _ _ _ _ _ _ (by rw [← HE.out]; exact HK.out))
        rw [hv] at hC
        obtain ⟨hx, fx⟩ := HCl.out t wr ((mid + m - 1 - h0)) (by omega) HI.out.1
        obtain ⟨hy, fy⟩ := HCl.out t wr h0 (by omega) HI.out.1
        clear fx fy
        generalize val t ((mid + m - 1 - h0)) = vx at hC hx
        generalize val t h0 = vy at hC hy
        have HC := Lib.hid hC; clear hC hv hh0
        have i3 : (h0 : Int) ≤ (mid : Int) + (m : Int) - 1 := by omega
        have i4 : (h0 : Int) < (mid : Int) + (m : Int) := by omega
        have iw0 : IntKind.i64.wrap ((mid : Int) + (m : Int) - 1 - ((h0 : Nat) : Int)) = (mid : Int) + (m : Int) - 1 - ((h0 : Nat) : Int) := IntWalk.i64_in _ (by omega)
        have iz0 : (0 : Int) ≤ (mid : Int) + (m : Int) - 1 - ((h0 : Nat) : Int) := by omega
        have il0 : (mid : Int) + (m : Int) - 1 - ((h0 : Nat) : Int) < (n : Int) := by omega
        have it0 : ((mid : Int) + (m : Int) - 1 - ((h0 : Nat) : Int)).toNat = mid + m - 1 - h0 := by omega
        have ib0 : ((h0 : Nat) : Int) < (n : Int) := by omega
        go_wp2_with fail
        go_still_tail 11, (by kernel_rfl)
        change wpList _ _ _ _ _ (wr.drewN 1)
        go_wp2_with fail
        refine HC.out.mono ?_
        rintro e w1 ⟨c0, rfl, hc0, hR1⟩
        have hc1 : c0 < 0 := of_decide_eq_true hc0
        have HR1 := Lib.hid hR1; clear hR1 iw0 iz0 il0 it0
        clear hx hy
        go_wp2_with fail
        go_roundw
        case rel => exact ⟨i, h0, fu, _, hi, by omega, by omega, rfl, rfl, by omega, HR1.out, HE.out.symm⟩
        case measure => simp [intOf]; omega
    · obtain rfl : i = j := by omega
      have HE := Lib.hid (HI.out.2.symm.trans (bsL_stop (by omega))); clear hlt
      obtain ⟨e, heN⟩ : ∃ e : Nat, mid + m - i = e := ⟨_, rfl⟩
      have hez : (mid : Int) + (m : Int) - (i : Int) = (e : Int) := by omega
      have hee : e + i = mid + m := by omega
      have HeN := Lib.hid heN; clear heN
      by_cases him : i < m
      · by_cases hai : a < i
        · by_cases heb : e < b
          · skip
            have hq00 : (i : Int) < (m : Int) := by omega
            have hq01 : (m : Int) < (e : Int) := by omega
            have hq10 : (a : Int) < (i : Int) := by omega
            have hq11 : (i : Int) < (mid : Int) := by omega
            have hq20 : (mid : Int) < (e : Int) := by omega
            have hq21 : (e : Int) < (b : Int) := by omega
            have HT : Hid (symTail M f a m b mid (bsr M (fun c => mid + m - 1 - c) (fun c => c) false (a) (m) s).1 (bsr M (fun c => mid + m - 1 - c) (fun c => c) false (a) (m) s).2 = symM M f mid e b (symM M f a i mid (rotate M i m e t))) := Lib.hid (by
              rw [HE.out]
              unfold symTail
              dsimp only
              rw [HeN.out, if_pos (show i < m ∧ m < e by omega), if_pos (show a < i ∧ i < mid by omega), if_pos (show mid < e ∧ e < b by omega)])
            have HO : Hid (ok (symM M f mid e b (symM M f a i mid (rotate M i m e t)))) := Lib.hid (by rw [← HT.out]; exact H0.out.2)
            go_wp2_with fail
            refine (HRo.out i m e (by omega) (by omega) (by omega) _ _ HI.out.1 (ok_symM HG.out f _ _ _ _ (ok_symM HG.out f _ _ _ _ (HO.out)))).mono ?_
            rintro ed v1 ⟨rfl, hr1⟩
            have V1 := Lib.hid hr1; clear hr1
            go_wp2_with fail
            refine (HIH.out a i mid _ _ (by omega) (by omega) (by omega) (by omega) V1.out (ok_symM HG.out f _ _ _ _ (HO.out))).mono ?_
            rintro ed v2 ⟨rfl, hr2⟩
            have V2 := Lib.hid hr2; clear hr2
            go_wp2_with fail
            refine (HIH.out mid e b _ _ (by omega) (by omega) (by omega) (by omega) V2.out (HO.out)).mono ?_
            rintro ed v3 ⟨rfl, hr3⟩
            have V3 := Lib.hid hr3; clear hr3
            go_wp2_with fail
            go_end0
            exact ⟨rfl, by rw [HT.out]; exact V3.out⟩
          · skip
            have hq00 : (i : Int) < (m : Int) := by omega
            have hq01 : (m : Int) < (e : Int) := by omega
            have hq10 : (a : Int) < (i : Int) := by omega
            have hq11 : (i : Int) < (mid : Int) := by omega
            have hq20 : (mid : Int) < (e : Int) := by omega
            have hq21 : ¬ ((e : Int) < (b : Int)) := by omega
            have HT : Hid (symTail M f a m b mid (bsr M (fun c => mid + m - 1 - c) (fun c => c) false (a) (m) s).1 (bsr M (fun c => mid + m - 1 - c) (fun c => c) false (a) (m) s).2 = symM M f a i mid (rotate M i m e t)) := Lib.hid (by
              rw [HE.out]
              unfold symTail
              dsimp only
              rw [HeN.out, if_pos (show i < m ∧ m < e by omega), if_pos (show a < i ∧ i < mid by omega), if_neg (show ¬ (mid < e ∧ e < b) by omega)])
            have HO : Hid (ok (symM M f a i mid (rotate M i m e t))) := Lib.hid (by rw [← HT.out]; exact H0.out.2)
            go_wp2_with fail
            refine (HRo.out i m e (by omega) (by omega) (by omega) _ _ HI.out.1 (ok_symM HG.out f _ _ _ _ (HO.out))).mono ?_
            rintro ed v1 ⟨rfl, hr1⟩
            have V1 := Lib.hid hr1; clear hr1
            go_wp2_with fail
            refine (HIH.out a i mid _ _ (by omega) (by omega) (by omega) (by omega) V1.out (HO.out)).mono ?_
            rintro ed v2 ⟨rfl, hr2⟩
            have V2 := Lib.hid hr2; clear hr2
            go_wp2_with fail
            go_end0
            exact ⟨rfl, by rw [HT.out]; exact V2.out⟩
        · by_cases heb : e < b
          · skip
            have hq00 : (i : Int) < (m : Int) := by omega
            have hq01 : (m : Int) < (e : Int) := by omega
            have hq10 : ¬ ((a : Int) < (i : Int)) := by omega
            have hq20 : (mid : Int) < (e : Int) := by omega
            have hq21 : (e : Int) < (b : Int) := by omega
            have HT : Hid (symTail M f a m b mid (bsr M (fun c => mid + m - 1 - c) (fun c => c) false (a) (m) s).1 (bsr M (fun c => mid + m - 1 - c) (fun c => c) false (a) (m) s).2 = symM M f mid e b (rotate M i m e t)) := Lib.hid (by
              rw [HE.out]
              unfold symTail
              dsimp only
              rw [HeN.out, if_pos (show i < m ∧ m < e by omega), if_neg (show ¬ (a < i ∧ i < mid) by omega), if_pos (show mid < e ∧ e < b by omega)])
            have HO : Hid (ok (symM M f mid e b (rotate M i m e t))) := Lib.hid (by rw [← HT.out]; exact H0.out.2)
            go_wp2_with fail
            refine (HRo.out i m e (by omega) (by omega) (by omega) _ _ HI.out.1 (ok_symM HG.out f _ _ _ _ (HO.out))).mono ?_
            rintro ed v1 ⟨rfl, hr1⟩
            have V1 := Lib.hid hr1; clear hr1
            go_wp2_with fail
            refine (HIH.out mid e b _ _ (by omega) (by omega) (by omega) (by omega) V1.out (HO.out)).mono ?_
            rintro ed v2 ⟨rfl, hr2⟩
            have V2 := Lib.hid hr2; clear hr2
            go_wp2_with fail
            go_end0
            exact ⟨rfl, by rw [HT.out]; exact V2.out⟩
          · skip
            have hq00 : (i : Int) < (m : Int) := by omega
            have hq01 : (m : Int) < (e : Int) := by omega
            have hq10 : ¬ ((a : Int) < (i : Int)) := by omega
            have hq20 : (mid : Int) < (e : Int) := by omega
            have hq21 : ¬ ((e : Int) < (b : Int)) := by omega
            have HT : Hid (symTail M f a m b mid (bsr M (fun c => mid + m - 1 - c) (fun c => c) false (a) (m) s).1 (bsr M (fun c => mid + m - 1 - c) (fun c => c) false (a) (m) s).2 = rotate M i m e t) := Lib.hid (by
              rw [HE.out]
              unfold symTail
              dsimp only
              rw [HeN.out, if_pos (show i < m ∧ m < e by omega), if_neg (show ¬ (a < i ∧ i < mid) by omega), if_neg (show ¬ (mid < e ∧ e < b) by omega)])
            have HO : Hid (ok (rotate M i m e t)) := Lib.hid (by rw [← HT.out]; exact H0.out.2)
            go_wp2_with fail
            refine (HRo.out i m e (by omega) (by omega) (by omega) _ _ HI.out.1 (HO.out)).mono ?_
            rintro ed v1 ⟨rfl, hr1⟩
            have V1 := Lib.hid hr1; clear hr1
            go_wp2_with fail
            go_end0
            exact ⟨rfl, by rw [HT.out]; exact V1.out⟩
      · by_cases hmm : m < mid
        · skip
          have hq00 : ¬ ((i : Int) < (m : Int)) := by omega
          have hq10 : (a : Int) < (i : Int) := by omega
          have hq11 : (i : Int) < (mid : Int) := by omega
          have hq20 : ¬ ((mid : Int) < (e : Int)) := by omega
          have HT : Hid (symTail M f a m b mid (bsr M (fun c => mid + m - 1 - c) (fun c => c) false (a) (m) s).1 (bsr M (fun c => mid + m - 1 - c) (fun c => c) false (a) (m) s).2 = symM M f a i mid (t)) := Lib.hid (by
            rw [HE.out]
            unfold symTail
            dsimp only
            rw [HeN.out, if_neg (show ¬ (i < m ∧ m < e) by omega), if_pos (show a < i ∧ i < mid by omega), if_neg (show ¬ (mid < e ∧ e < b) by omega)])
          have HO : Hid (ok (symM M f a i mid (t))) := Lib.hid (by rw [← HT.out]; exact H0.out.2)
          go_wp2_with fail
          refine (HIH.out a i mid _ _ (by omega) (by omega) (by omega) (by omega) HI.out.1 (HO.out)).mono ?_
          rintro ed v1 ⟨rfl, hr1⟩
          have V1 := Lib.hid hr1; clear hr1
          go_wp2_with fail
          go_end0
          exact ⟨rfl, by rw [HT.out]; exact V1.out⟩
        · skip
          have hq00 : ¬ ((i : Int) < (m : Int)) := by omega
          have hq10 : (a : Int) < (i : Int) := by omega
          have hq11 : ¬ ((i : Int) < (mid : Int)) := by omega
          have hq20 : ¬ ((mid : Int) < (e : Int)) := by omega
          have HT : Hid (symTail M f a m b mid (bsr M (fun c => mid + m - 1 - c) (fun c => c) false (a) (m) s).1 (bsr M (fun c => mid + m - 1 - c) (fun c => c) false (a) (m) s).2 = t) := Lib.hid (by
            rw [HE.out]
            unfold symTail
            dsimp only
            rw [HeN.out, if_neg (show ¬ (i < m ∧ m < e) by omega), if_neg (show ¬ (a < i ∧ i < mid) by omega), if_neg (show ¬ (mid < e ∧ e < b) by omega)])
          have HO : Hid (ok (t)) := Lib.hid (by rw [← HT.out]; exact H0.out.2)
          go_wp2_with fail
          go_end0
          exact ⟨rfl, by rw [HT.out]; exact HI.out.1⟩

theorem symMergeN (H : CmpN M ok R val g cap gc cb n) : ∀ (f a m b : Nat) (s : σ) (w : World), a < m → m < b → b ≤ n → b - a ≤ f → R s w → ok (symM M f a m b s) →
    Calls Try.prog 119 #[.slice (some ⟨g, 0, none⟩) n cap, .int .i64 a, .int .i64 m, .int .i64 b, .func (.func gc) #[] cb] w (Leaves R (symM M f a m b s))
  | 0, a, m, b, s, w, h1, h2, h3, h4, hR, hok => absurd h4 (by omega)
  | f + 1, a, m, b, s, w, h1, h2, h3, h4, hR, hok => by
    by_cases c1 : m = a + 1
    · exact symMergeN1 H f a m b c1 h2 h3 s w hR hok
    by_cases c2 : b = m + 1
    · exact symMergeN2 H f a m b (by omega) c2 h3 s w hR hok
    by_cases c3 : (a + b) / 2 < m
    · exact symMergeN3b H f a m b (by omega) (by omega) h3 c3 s w hR hok (fun a m b s w => symMergeN H f a m b s w) h4
    · exact symMergeN3a H f a m b (by omega) (by omega) h3 (by omega) s w hR hok (fun a m b s w => symMergeN H f a m b s w) h4
end
end Go.Proofs.Ytjammaglboehcaa

namespace Go.Proofs.Ytjammaglboehcaa
open Go.RowKit Go.Proofs
set_option linter.unusedVariables false

section
variable {σ : Type} {M : Mach σ} {ok : σ → Prop} {R : σ → World → Prop} {val : σ → Nat → Int} {g cap gc n : Nat} {cb : Array Value}

set_option maxRecDepth 100000 in
set_option maxHeartbeats 4000000 in
theorem stableN (H : CmpN M ok R val g cap gc cb n) (s : σ) (w : World) (hR : R s w) (hok : ok (stable M n s)) :
    Calls Try.prog 70 #[.slice (some ⟨g, 0, none⟩) n cap, .int .i64 n, .func (.func gc) #[] cb] w (Leaves R (stable M n s)) := by
  have hn := H.hn
  have HG := Lib.hid H.guard
  have HIn := Lib.hid (fun a b hab hb t wr => insertionSortN H a b hab hb t wr)
  have HSy := Lib.hid (fun a m b t wr h1 h2 h3 => symMergeN H (b - a) a m b t wr h1 h2 h3 (Nat.le_refl _))
  have H0 := Lib.hid (And.intro hR hok)
  have HK0 : Hid (ok (stLoop M n n 20 (insSort M (stBlocks M n n 0 s).1 n (stBlocks M n n 0 s).2))) := Lib.hid hok
  clear H hR hok
  go_enter Try.func70, Try.ntmps70
  go_wp2_with fail
  go_loopw [7, 8] (fun va vb wr => ∃ (a b k : Nat) (t : σ), a ≤ n ∧ b = a + 20 ∧ va = .int .i64 a ∧ vb = .int .i64 b ∧ n - a ≤ k ∧ Hid (R t wr ∧ stBlocks M n k a t = stBlocks M n n 0 s)) (fun va _ _ => n - (intOf va).toNat)
  case atStart => exact ⟨0, 20, n, s, Nat.zero_le _, rfl, rfl, rfl, Nat.le_refl _, H0.out.1, rfl⟩
  case round =>
    obtain ⟨a, b, k, t, han, hb20, rfl, rfl, hk, HI⟩ := hrel
    by_cases hlt : b ≤ n
    · obtain ⟨k, rfl⟩ : ∃ g, k = g + 1 := ⟨k - 1, by omega⟩
      have HE := Lib.hid (HI.out.2.symm.trans (stBlocks_go (show a + 20 ≤ n by omega)))
      have HB : Hid (ok (insSort M a b t)) := Lib.hid (by
        rw [hb20]
        exact ok_stBlocks HG.out n k _ _ (by rw [← HE.out]; exact ok_insSort HG.out _ _ _ (ok_stLoop HG.out _ _ _ _ HK0.out)))
      have HC := Lib.hid (HIn.out a b (by omega) hlt t wr HI.out.1 HB.out)
      have HB20 := Lib.hid hb20; clear hb20
      have hbz : a + 20 ≤ b ∧ b ≤ a + 20 := by have := HB20.out; omega
      go_wp2_with fail
      refine HC.out.mono ?_
      rintro e w1 ⟨rfl, hR1⟩
      have HR1 := Lib.hid hR1; clear hR1
      go_wp2_with fail
      go_roundw
      case rel => exact ⟨b, b + 20, k, _, hlt, rfl, rfl, by go_num, by omega, HR1.out, by rw [HE.out, HB20.out]⟩
      case measure => simp [intOf]; omega
    · have HE := Lib.hid (HI.out.2.symm.trans (stBlocks_stop (show ¬ a + 20 ≤ n by omega)))
      have HK1 : Hid (ok (stLoop M n n 20 (insSort M a n t))) := Lib.hid (by have := HK0.out; rw [HE.out] at this; exact this)
      have HF1 : Hid (stLoop M n n 20 (insSort M a n t) = stable M n s) := Lib.hid (by unfold stable; rw [HE.out])
      have HC := Lib.hid (HIn.out a n han (Nat.le_refl _) t wr HI.out.1 (ok_stLoop HG.out _ _ _ _ HK1.out))
      clear HE
      go_wp2_with fail
      refine HC.out.mono ?_
      rintro e w1 ⟨rfl, hR1⟩
      have HR1 := Lib.hid hR1; clear hR1
      go_wp2_with fail
      go_loopw [6] (fun vs wr => ∃ (bs k : Nat) (t : σ), 20 ≤ bs ∧ bs ≤ 2 * n + 20 ∧ vs = .int .i64 bs ∧ n - bs ≤ k ∧ Hid (R t wr ∧ stLoop M n k bs t = stable M n s)) (fun vs _ => n - (intOf vs).toNat)
      case atStart => exact ⟨20, n, _, Nat.le_refl _, by omega, rfl, by omega, HR1.out, HF1.out⟩
      case round =>
        clear HR1 HC HI
        obtain ⟨bs, k, t, hbs, hbn, rfl, hk, HI⟩ := hrel
        by_cases hlt2 : bs < n
        · obtain ⟨k, rfl⟩ : ∃ g, k = g + 1 := ⟨k - 1, by omega⟩
          have HE := Lib.hid (HI.out.2.symm.trans (stLoop_go hlt2))
          have HKr : Hid (ok (stRound M n bs t)) := Lib.hid (ok_stLoop HG.out _ _ _ _ (by rw [← HE.out]; exact H0.out.2))
          have HKp : Hid (ok (stPass M n bs n 0 t).2) := Lib.hid (by
            have := HKr.out
            unfold stRound at this
            dsimp only at this
            split at this
            · exact ok_symMerge HG.out _ _ _ _ this
            · exact this)
          go_wp2_with fail
          go_loopw [7, 8] (fun va vb wr => ∃ (a b q : Nat) (u : σ), a ≤ n ∧ b = a + 2 * bs ∧ va = .int .i64 a ∧ vb = .int .i64 b ∧ n - a ≤ q ∧ Hid (R u wr ∧ stPass M n bs q a u = stPass M n bs n 0 t)) (fun va _ _ => n - (intOf va).toNat)
          case atStart => exact ⟨0, 2 * bs, n, t, Nat.zero_le _, by omega, rfl, by go_num, Nat.le_refl _, HI.out.1, rfl⟩
          case round =>
            obtain ⟨a, b, q, u, han, hb2, rfl, rfl, hq, HJ⟩ := hrel
            by_cases hlt3 : b ≤ n
            · obtain ⟨q, rfl⟩ : ∃ g, q = g + 1 := ⟨q - 1, by omega⟩
              have HE2 := Lib.hid (HJ.out.2.symm.trans (stPass_go (show a + 2 * bs ≤ n by omega)))
              have HB : Hid (ok (symMerge M a (a + bs) b u)) := Lib.hid (by
                rw [hb2]
                exact ok_stPass HG.out n bs q _ _ (by rw [← HE2.out]; exact HKp.out))
              have hC := HSy.out a (a + bs) b u wr (by omega) (by omega) hlt3 HJ.out.1 HB.out
              rw [Int.natCast_add] at hC
              have HC := Lib.hid hC; clear hC
              have HB2 := Lib.hid hb2; clear hb2
              have hbz : a + 2 * bs ≤ b ∧ b ≤ a + 2 * bs := by have := HB2.out; omega
              go_wp2_with fail
              refine HC.out.mono ?_
              rintro e w1 ⟨rfl, hR1⟩
              have HR1 := Lib.hid hR1; clear hR1
              go_wp2_with fail
              go_roundw
              case rel => exact ⟨b, b + 2 * bs, q, _, hlt3, rfl, rfl, by go_num, by omega, HR1.out, by rw [HE2.out, ← HB2.out]; rfl⟩
              case measure => simp [intOf]; omega
            · have HE2 := Lib.hid (HJ.out.2.symm.trans (stPass_stop (show ¬ a + 2 * bs ≤ n by omega)))
              by_cases hmn : a + bs < n
              · have HRd := Lib.hid (stRound_more u HE2.out hmn)
                have hC := HSy.out a (a + bs) n u wr (by omega) hmn (Nat.le_refl _) HJ.out.1 (by have := HKr.out; rw [HRd.out] at this; exact this)
                rw [Int.natCast_add] at hC
                have HC := Lib.hid hC; clear hC
                have hmz : (a : Int) + (bs : Int) < (n : Int) := by omega
                go_wp2_with fail
                refine HC.out.mono ?_
                rintro e w1 ⟨rfl, hR1⟩
                have HR1 := Lib.hid hR1; clear hR1
                go_wp2_with fail
                go_roundw
                case rel => exact ⟨bs * 2, k, _, by omega, by omega, by go_num, by omega, HR1.out, by rw [HE.out, HRd.out]; rfl⟩
                case measure => simp [intOf]; omega
              · have HRd := Lib.hid (stRound_less u HE2.out hmn)
                have hmz : ¬ ((a : Int) + (bs : Int) < (n : Int)) := by omega
                go_wp2_with fail
                go_roundw
                case rel => exact ⟨bs * 2, k, _, by omega, by omega, by go_num, by omega, HJ.out.1, by rw [HE.out, HRd.out]⟩
                case measure => simp [intOf]; omega
        · have HE := Lib.hid (HI.out.2.symm.trans (stLoop_stop hlt2))
          go_wp2_with fail
          go_end0
          exact ⟨rfl, by rw [HE.out]; exact HI.out.1⟩
end
end Go.Proofs.Ytjammaglboehcaa
