/-
  The walks of slices' stable sort at int: each function does what the plain program does.
-/
import Derived.Test.YtkblfcdofgahhaaProg
import Derived.Test.YtkblfcdofgahhaaStB
import Derived.BigRegion
import Derived.StillTailTactics
namespace Go.Proofs.Ytkblfcdofgahhaa
open Go.RowKit Go.Proofs
set_option linter.unusedVariables false

/-- A row of elements of its own and a comparison, over a machine. -/
structure CmpN {σ : Type} (M : Mach σ) (ok : σ → Prop) (R : σ → World → Prop) (val : σ → Nat → Int) (g cap gc : Nat) (cb : Array Value) (n : Nat) : Prop where
  guard : Guard M ok
  hn : n ≤ 1152921504606846975
  eC : ∀ args w, (callFunc gc args).run Try.prog w = .ok (.enter gc args) w
  drew : ∀ s w q, R s w → R s (w.drewN q)
  cell : ∀ s w i, i < n → R s w → w.cell? ⟨g, i, none⟩ = some (.int .i64 (val s i)) ∧ w.frozen? ⟨g, i, none⟩ = false
  cmp : ∀ s w i j, i < n → j < n → R s w → ok (M.tick s i j) → Calls Try.prog gc (#[.int .i64 (val s i), .int .i64 (val s j)] ++ cb) w fun e w' => ∃ c : Int, e = .returned (.int .i64 c) ∧ decide (c < 0) = M.less s i j ∧ R (M.tick s i j) w'
  swap : ∀ s w i j, i < n → j < n → R s w → ok (M.swap s i j) → R (M.swap s i j) ((w.setCell ⟨g, i, none⟩ (.int .i64 (val s j))).setCell ⟨g, j, none⟩ (.int .i64 (val s i)))

section
variable {σ : Type} {M : Mach σ} {ok : σ → Prop} {R : σ → World → Prop} {val : σ → Nat → Int} {g cap gc n : Nat} {cb : Array Value}

set_option maxRecDepth 100000 in
set_option maxHeartbeats 4000000 in
theorem swapRangeN (H : CmpN M ok R val g cap gc cb n) (a b k : Nat) (ha : a + k ≤ n) (hb : b + k ≤ n) (s : σ) (w : World) (hR : R s w) (hok : ok (swapR M a b k 0 s)) :
    Calls Try.prog 86 #[.slice (some ⟨g, 0, none⟩) n cap, .int .i64 a, .int .i64 b, .int .i64 k, .func (.func gc) #[] cb] w (Leaves R (swapR M a b k 0 s)) := by
  have hn := H.hn
  have eC := H.eC
  have HS := Lib.hid H.swap
  have HCl := Lib.hid H.cell
  have HD := Lib.hid H.drew
  have HG := Lib.hid H.guard
  have H0 := Lib.hid (And.intro hR hok)
  clear H hR hok
  go_enter Try.func86, Try.ntmps86
  go_wp2_with fail
  go_loopw [10] (fun vi wr => ∃ (i : Nat) (t : σ), i ≤ k ∧ vi = .int .i64 i ∧ Hid (R t wr ∧ swapR M a b (k - i) i t = swapR M a b k 0 s)) (fun vi _ => k - (intOf vi).toNat)
  case atStart => exact ⟨0, s, Nat.zero_le _, rfl, H0.out.1, rfl⟩
  case round =>
    obtain ⟨i, t, hi, rfl, HI⟩ := hrel
    by_cases hlt : i < k
    · have HE : Hid (swapR M a b (k - (i + 1)) (i + 1) (M.swap t (a + i) (b + i)) = swapR M a b k 0 s) := Lib.hid (by
        have := HI.out.2
        rw [show k - i = (k - (i + 1)) + 1 by omega] at this
        exact this)
      have hS := HS.out t wr (a + i) (b + i) (by omega) (by omega) HI.out.1 (ok_swapR HG.out a b (k - (i + 1)) (i + 1) _ (by rw [HE.out]; exact H0.out.2))
      obtain ⟨hx, fx⟩ := HCl.out t wr (a + i) (by omega) HI.out.1
      obtain ⟨hy, fy⟩ := HCl.out t wr (b + i) (by omega) HI.out.1
      generalize val t (a + i) = vx at hS hx
      generalize val t (b + i) = vy at hS hy
      obtain ⟨u1, s1⟩ := cell_staysB (p := ⟨g, (a + i), none⟩) (x := .int .i64 vy) hy
      have HR1 := Lib.hid (HD.out _ _ 1 hS); clear hS
      have iw0 : IntKind.i64.wrap ((a : Int) + (i : Int)) = (a : Int) + (i : Int) := IntWalk.i64_in _ (by omega)
      have iz0 : (0 : Int) ≤ (a : Int) + (i : Int) := by omega
      have il0 : (a : Int) + (i : Int) < (n : Int) := by omega
      have it0 : ((a : Int) + (i : Int)).toNat = a + i := by omega
      have iw1 : IntKind.i64.wrap ((b : Int) + (i : Int)) = (b : Int) + (i : Int) := IntWalk.i64_in _ (by omega)
      have iz1 : (0 : Int) ≤ (b : Int) + (i : Int) := by omega
      have il1 : (b : Int) + (i : Int) < (n : Int) := by omega
      have it1 : ((b : Int) + (i : Int)).toNat = b + i := by omega
      go_wp2_with fail
      go_region
      clear iw0 iz0 il0 it0 iw1 iz1 il1 it1 hx fx hy fy s1
      go_wp2_with fail
      go_roundw
      case rel => exact ⟨i + 1, M.swap t (a + i) (b + i), hlt, by go_num, HR1.out, HE.out⟩
      case measure => simp [intOf]; omega
    · go_wp2_with fail
      go_end0
      exact ⟨rfl, by
        have := HI.out.2
        rw [show k - i = 0 by omega] at this
        rw [← this]; exact HI.out.1⟩

set_option maxRecDepth 100000 in
set_option maxHeartbeats 4000000 in
theorem rotateN (H : CmpN M ok R val g cap gc cb n) (a m b : Nat) (ha : a < m) (hm : m < b) (hb : b ≤ n) (s : σ) (w : World) (hR : R s w) (hok : ok (rotate M a m b s)) :
    Calls Try.prog 82 #[.slice (some ⟨g, 0, none⟩) n cap, .int .i64 a, .int .i64 m, .int .i64 b, .func (.func gc) #[] cb] w (Leaves R (rotate M a m b s)) := by
  have hn := H.hn
  have HS := Lib.hid (fun a b k ha hb t wr => swapRangeN H a b k ha hb t wr)
  have HG := Lib.hid H.guard
  have H0 := Lib.hid (And.intro hR hok)
  clear H hR hok
  go_enter Try.func82, Try.ntmps82
  go_wp2_with fail
  go_loopw [10, 11] (fun vi vj wr => ∃ (i j f : Nat) (t : σ), 1 ≤ i ∧ 1 ≤ j ∧ i ≤ m ∧ m + j ≤ n ∧ vi = .int .i64 i ∧ vj = .int .i64 j ∧ i + j ≤ f ∧ Hid (R t wr ∧ rotL M m f i j t = rotate M a m b s)) (fun vi vj _ => (intOf vi).toNat + (intOf vj).toNat)
  case atStart => exact ⟨m - a, b - m, (m - a) + (b - m), s, by omega, by omega, by omega, by omega, by go_num, by go_num, Nat.le_refl _, H0.out.1, rfl⟩
  case round =>
    obtain ⟨i, j, f, t, hi, hj, him, hjn, rfl, rfl, hf, HI⟩ := hrel
    obtain ⟨f, rfl⟩ : ∃ g, f = g + 1 := ⟨f - 1, by omega⟩
    have cmi : ((m - i : Nat) : Int) = (m : Int) - (i : Int) := by omega
    have cmj : ((m + j - i : Nat) : Int) = (m : Int) + (j : Int) - (i : Int) := by omega
    have HM1 := Lib.hid cmi; have HM2 := Lib.hid cmj; clear cmi cmj
    by_cases hij : i = j
    · subst hij
      have hne : ((i : Int) != (i : Int)) = false := by simp
      have HE : Hid (swapR M (m - i) m i 0 t = rotate M a m b s) := Lib.hid (by
        have := HI.out.2
        unfold rotL at this
        rw [if_pos rfl] at this
        exact this)
      have hC := HS.out (m - i) m i (by omega) (by omega) t wr HI.out.1 (by rw [HE.out]; exact H0.out.2)
      rw [HM1.out] at hC
      have HC := Lib.hid hC; clear hC
      go_wp2_with fail
      refine HC.out.mono ?_
      rintro e w1 ⟨rfl, hR1⟩
      have HR1 := Lib.hid hR1; clear hR1
      go_wp2_with fail
      go_end0
      exact ⟨rfl, by rw [← HE.out]; exact HR1.out⟩
    · have hne : ((i : Int) != (j : Int)) = true := by simp; omega
      by_cases hgt : j < i
      · have hgz : (i : Int) > (j : Int) := by omega
        have HE : Hid (rotL M m f (i - j) j (swapR M (m - i) m j 0 t) = rotate M a m b s) := Lib.hid (by
          have := HI.out.2
          unfold rotL at this
          rw [if_neg hij, if_pos hgt] at this
          exact this)
        have hC := HS.out (m - i) m j (by omega) (by omega) t wr HI.out.1 (ok_rotL HG.out m f _ _ _ (by rw [HE.out]; exact H0.out.2))
        rw [HM1.out] at hC
        have HC := Lib.hid hC; clear hC
        go_wp2_with fail
        refine HC.out.mono ?_
        rintro e w1 ⟨rfl, hR1⟩
        have HR1 := Lib.hid hR1; clear hR1
        go_wp2_with fail
        go_roundw
        case rel => exact ⟨i - j, j, f, _, by omega, by omega, by omega, by omega, by go_num, rfl, by omega, HR1.out, HE.out⟩
        case measure => simp [intOf]; omega
      · have hgz : ¬ ((i : Int) > (j : Int)) := by omega
        have HE : Hid (rotL M m f i (j - i) (swapR M (m - i) (m + j - i) i 0 t) = rotate M a m b s) := Lib.hid (by
          have := HI.out.2
          unfold rotL at this
          rw [if_neg hij, if_neg hgt] at this
          exact this)
        have hC := HS.out (m - i) (m + j - i) i (by omega) (by omega) t wr HI.out.1 (ok_rotL HG.out m f _ _ _ (by rw [HE.out]; exact H0.out.2))
        rw [HM1.out, HM2.out] at hC
        have HC := Lib.hid hC; clear hC
        go_wp2_with fail
        refine HC.out.mono ?_
        rintro e w1 ⟨rfl, hR1⟩
        have HR1 := Lib.hid hR1; clear hR1
        go_wp2_with fail
        go_roundw
        case rel => exact ⟨i, j - i, f, _, by omega, by omega, by omega, by omega, rfl, by go_num, by omega, HR1.out, HE.out⟩
        case measure => simp [intOf]; omega

set_option maxRecDepth 100000 in
set_option maxHeartbeats 4000000 in
theorem insertionSortN (H : CmpN M ok R val g cap gc cb n) (a b : Nat) (hab : a ≤ b) (hb : b ≤ n) (s : σ) (w : World) (hR : R s w) (hok : ok (insSort M a b s)) :
    Calls Try.prog 76 #[.slice (some ⟨g, 0, none⟩) n cap, .int .i64 a, .int .i64 b, .func (.func gc) #[] cb] w (Leaves R (insSort M a b s)) := by
  have hn := H.hn
  have eC := H.eC
  have HS := Lib.hid H.swap
  have HL := Lib.hid H.cmp
  have HCl := Lib.hid H.cell
  have HD := Lib.hid H.drew
  have HG := Lib.hid H.guard
  have H0 := Lib.hid (And.intro hR hok)
  clear H hR hok
  go_enter Try.func76, Try.ntmps76
  go_wp2_with fail
  go_loopw [8] (fun vi wr => ∃ (i : Nat) (t : σ), a + 1 ≤ i ∧ (i ≤ b ∨ i = a + 1) ∧ vi = .int .i64 i ∧ Hid (R t wr ∧ insOuter M a (b - i) i t = insSort M a b s)) (fun vi _ => b - (intOf vi).toNat)
  case atStart => exact ⟨a + 1, s, Nat.le_refl _, .inr rfl, by go_num, H0.out.1, rfl⟩
  case round =>
    obtain ⟨i, t, hai, hib, rfl, HI⟩ := hrel
    by_cases hlt : i < b
    · have HE : Hid (insOuter M a (b - (i + 1)) (i + 1) (insInner M a i t) = insSort M a b s) := Lib.hid (by
        have := HI.out.2
        rw [show b - i = (b - (i + 1)) + 1 by omega] at this
        exact this)
      have HK : Hid (ok (insInner M a i t)) := Lib.hid (ok_insOuter HG.out a (b - (i + 1)) (i + 1) _ (by rw [HE.out]; exact H0.out.2))
      go_wp2_with fail
      go_loopw [9] (fun vj wr2 => ∃ (j : Nat) (u : σ), a ≤ j ∧ j ≤ i ∧ vj = .int .i64 j ∧ Hid (R u wr2 ∧ insInner M a j u = insInner M a i t)) (fun vj _ => (intOf vj).toNat)
      case atStart => exact ⟨i, t, by omega, Nat.le_refl _, rfl, HI.out.1, rfl⟩
      case round =>
        obtain ⟨j, u, haj, hji, rfl, HJ⟩ := hrel
        by_cases hja : a < j
        · obtain ⟨j, rfl⟩ : ∃ x, j = x + 1 := ⟨j - 1, by omega⟩
          have hin : insInner M a (j + 1) u = if M.less u (j + 1) j = true then insInner M a j (M.swap (M.tick u (j + 1) j) (j + 1) j) else M.tick u (j + 1) j := by
            show (if a < j + 1 then _ else _) = _
            rw [if_pos hja]
          have hjz : ((j + 1 : Nat) : Int) > (a : Int) := by omega
          have hcj : ((j : Nat) : Int) = ((j + 1 : Nat) : Int) - 1 := by omega
          have HJ1 := Lib.hid hcj; clear hcj
          have hj1n : j + 1 ≤ i ∧ j + 1 < n := by omega
          generalize hj1 : j + 1 = j1 at *
          have HJJ := Lib.hid hj1
          have hjj : j < j1 ∧ j1 ≤ j + 1 := by omega
          clear hj1
          have hjg : decide ((j1 : Int) > (a : Int)) = true := decide_eq_true (by omega)
          cases hv : M.less u j1 j
          · rw [hv, if_neg (by simp), HJ.out.2] at hin
            have HN := Lib.hid hin; clear hin
            have hC := HL.out u (wr.drewN 1) j1 j (by omega) (by omega) (HD.out _ _ 1 HJ.out.1) (by rw [← HN.out]; exact HK.out)
            rw [hv] at hC
            obtain ⟨hx, fx⟩ := HCl.out u wr j1 (by omega) HJ.out.1
            obtain ⟨hy, fy⟩ := HCl.out u wr j (by omega) HJ.out.1
            clear fx fy
            generalize val u j1 = vx at hC hx
            generalize val u j = vy at hC hy
            have HC := Lib.hid hC; clear hC hv
            have i1 : (1 : Int) ≤ (j1 : Int) := by omega
            have i2 : 1 ≤ j1 := by omega
            have iw0 : IntKind.i64.wrap ((j1 : Int) - 1) = (j1 : Int) - 1 := IntWalk.i64_in _ (by omega)
            have iz0 : (0 : Int) ≤ (j1 : Int) - 1 := by omega
            have il0 : (j1 : Int) - 1 < (n : Int) := by omega
            have it0 : ((j1 : Int) - 1).toNat = j := by omega
            have ib0 : ((j1 : Nat) : Int) < (n : Int) := by omega
            go_wp2_with fail
            go_still_tail 14, (by kernel_rfl)
            change wpList _ _ _ _ _ (wr.drewN 1)
            go_wp2_with fail
            refine HC.out.mono ?_
            rintro e w1 ⟨c0, rfl, hc0, hR1⟩
            have hc1 : ¬ (c0 < 0) := of_decide_eq_false hc0
            have hc2 : 0 ≤ c0 := by omega
            have HR1 := Lib.hid hR1; clear hR1 iw0 iz0 il0 it0
            clear hx hy
            go_wp2_with fail
            go_roundw
            case rel => exact ⟨i + 1, insInner M a i t, by omega, .inl (by omega), by go_num, by rw [HN.out]; exact HR1.out, HE.out⟩
            case measure => simp [intOf]; omega
          · rw [hv, if_pos rfl, HJ.out.2] at hin
            have hok1 : ok (M.swap (M.tick u j1 j) j1 j) := ok_insInner HG.out a j _ (by rw [← hin]; exact HK.out)
            have HN := Lib.hid hin; have HO1 := Lib.hid hok1; clear hin hok1
            have hC := HL.out u (wr.drewN 1) j1 j (by omega) (by omega) (HD.out _ _ 1 HJ.out.1) (HG.out.swap _ _ _ HO1.out)
            rw [hv] at hC
            obtain ⟨hx, fx⟩ := HCl.out u wr j1 (by omega) HJ.out.1
            obtain ⟨hy, fy⟩ := HCl.out u wr j (by omega) HJ.out.1
            clear fx fy
            generalize val u j1 = vx at hC hx
            generalize val u j = vy at hC hy
            have HC := Lib.hid hC; clear hC hv
            have i1 : (1 : Int) ≤ (j1 : Int) := by omega
            have i2 : 1 ≤ j1 := by omega
            have iw0 : IntKind.i64.wrap ((j1 : Int) - 1) = (j1 : Int) - 1 := IntWalk.i64_in _ (by omega)
            have iz0 : (0 : Int) ≤ (j1 : Int) - 1 := by omega
            have il0 : (j1 : Int) - 1 < (n : Int) := by omega
            have it0 : ((j1 : Int) - 1).toNat = j := by omega
            have ib0 : ((j1 : Nat) : Int) < (n : Int) := by omega
            go_wp2_with fail
            go_still_tail 14, (by kernel_rfl)
            change wpList _ _ _ _ _ (wr.drewN 1)
            go_wp2_with fail
            refine HC.out.mono ?_
            rintro e w1 ⟨c0, rfl, hc0, hR1⟩
            have hc1 : c0 < 0 := of_decide_eq_true hc0
            have HR1 := Lib.hid hR1; clear hR1 iw0 iz0 il0 it0
            clear hx hy
            go_wp2_with fail
            have hS := HS.out (M.tick u j1 j) w1 j1 j (by omega) (by omega) HR1.out HO1.out
            obtain ⟨hx, fx⟩ := HCl.out (M.tick u j1 j) w1 j1 (by omega) HR1.out
            obtain ⟨hy, fy⟩ := HCl.out (M.tick u j1 j) w1 j (by omega) HR1.out
            generalize val (M.tick u j1 j) j1 = vx at hS hx
            generalize val (M.tick u j1 j) j = vy at hS hy
            obtain ⟨u1, s1⟩ := cell_staysB (p := ⟨g, j1, none⟩) (x := .int .i64 vy) hy
            have HR2 := Lib.hid (HD.out _ _ 1 hS); clear hS
            have i1 : (1 : Int) ≤ (j1 : Int) := by omega
            have i2 : 1 ≤ j1 := by omega
            have iw0 : IntKind.i64.wrap ((j1 : Int) - 1) = (j1 : Int) - 1 := IntWalk.i64_in _ (by omega)
            have iz0 : (0 : Int) ≤ (j1 : Int) - 1 := by omega
            have il0 : (j1 : Int) - 1 < (n : Int) := by omega
            have it0 : ((j1 : Int) - 1).toNat = j := by omega
            have ib0 : ((j1 : Nat) : Int) < (n : Int) := by omega
            go_region
            clear iw0 iz0 il0 it0 hx fx hy fy s1
            go_wp2_with fail
            go_roundw
            case rel => exact ⟨j, _, by omega, by omega, by rw [HJ1.out], HR2.out, HN.out.symm⟩
            case measure => simp [intOf]; omega
        · have hjz : ¬ ((j : Int) > (a : Int)) := by omega
          have HN : Hid (insInner M a j u = u) := Lib.hid (by
            cases j with
            | zero => rfl
            | succ j => show (if a < j + 1 then _ else _) = _; rw [if_neg hja])
          have hjg : decide ((j : Int) > (a : Int)) = false := decide_eq_false hjz
          go_wp2_with fail
          go_quiet (fail)
          go_wp2_with fail
          go_roundw
          case rel => exact ⟨i + 1, insInner M a i t, by omega, .inl (by omega), by go_num, by rw [← HJ.out.2, HN.out]; exact HD.out _ _ _ HJ.out.1, HE.out⟩
          case measure => simp [intOf]; omega
    · go_wp2_with fail
      go_end0
      exact ⟨rfl, by
        have := HI.out.2
        rw [show b - i = 0 by omega] at this
        rw [← this]; exact HI.out.1⟩
end
end Go.Proofs.Ytkblfcdofgahhaa
