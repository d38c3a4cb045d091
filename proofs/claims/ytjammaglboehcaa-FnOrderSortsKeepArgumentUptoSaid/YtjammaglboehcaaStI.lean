/-
  The walks of sort's stable sort at an interface: each function does what the plain program does.
-/
import Derived.Test.YtjammaglboehcaaProg
import Derived.Test.YtjammaglboehcaaZA
namespace Go.Proofs.Ytjammaglboehcaa
open Go.RowKit Go.Proofs
set_option linter.unusedVariables false

/-- A value with the methods Less and Swap, over a machine. -/
structure IfaceS {σ : Type} (M : Mach σ) (ok : σ → Prop) (R : σ → World → Prop) (T : TypeId) (rv : Value) (gl gs n : Nat) : Prop where
  guard : Guard M ok
  hn : n ≤ 1152921504606846975
  mL : ∀ w, (method 266 T rv "Less").run Try.prog w = .ok (gl, rv) w
  mS : ∀ w, (method 266 T rv "Swap").run Try.prog w = .ok (gs, rv) w
  eL : ∀ args w, (callFunc gl args).run Try.prog w = .ok (.enter gl args) w
  eS : ∀ args w, (callFunc gs args).run Try.prog w = .ok (.enter gs args) w
  less : ∀ s w i j, i < n → j < n → R s w → ok (M.tick s i j) → Calls Try.prog gl #[rv, .int .i64 (i : Nat), .int .i64 (j : Nat)] w fun e w' => e = .returned (.bool (M.less s i j)) ∧ R (M.tick s i j) w'
  swap : ∀ s w i j, i < n → j < n → R s w → ok (M.swap s i j) → Calls Try.prog gs #[rv, .int .i64 (i : Nat), .int .i64 (j : Nat)] w fun e w' => e = .returned (.tuple #[]) ∧ R (M.swap s i j) w'

/-- A call that returns nothing, behind which the machine is in the state s. -/
def Leaves {σ : Type} (R : σ → World → Prop) (s : σ) (e : Ending) (w' : World) : Prop := e = .returned (.tuple #[]) ∧ R s w'

section
variable {σ : Type} {M : Mach σ} {ok : σ → Prop} {R : σ → World → Prop} {T : TypeId} {rv : Value} {gl gs n : Nat}

set_option maxHeartbeats 1000000 in
theorem swapRangeI (H : IfaceS M ok R T rv gl gs n) (a b k : Nat) (ha : a + k ≤ n) (hb : b + k ≤ n) (s : σ) (w : World) (hR : R s w) (hok : ok (swapR M a b k 0 s)) :
    Calls Try.prog 144 #[.iface T rv, .int .i64 a, .int .i64 b, .int .i64 k] w (Leaves R (swapR M a b k 0 s)) := by
  have hn := H.hn
  have mS := H.mS
  have eS := H.eS
  have HS := Lib.hid (And.intro H.swap H.guard)
  have H0 := Lib.hid (And.intro hR hok)
  clear H hR hok
  go_enter Try.func144, Try.ntmps144
  go_wp2_with fail
  go_loopw [8] (fun vi wr => ∃ (i : Nat) (t : σ), i ≤ k ∧ vi = .int .i64 i ∧ Hid (R t wr ∧ swapR M a b (k - i) i t = swapR M a b k 0 s)) (fun vi _ => k - (intOf vi).toNat)
  case atStart => exact ⟨0, s, Nat.zero_le _, rfl, H0.out.1, rfl⟩
  case round =>
    obtain ⟨i, t, hi, rfl, HI⟩ := hrel
    by_cases hlt : i < k
    · have HE : Hid (swapR M a b (k - (i + 1)) (i + 1) (M.swap t (a + i) (b + i)) = swapR M a b k 0 s) := Lib.hid (by
        have := HI.out.2
        rw [show k - i = (k - (i + 1)) + 1 by omega] at this
        exact this)
      have hC := HS.out.1 t wr (a + i) (b + i) (by omega) (by omega) HI.out.1 (ok_swapR HS.out.2 a b (k - (i + 1)) (i + 1) _ (by rw [HE.out]; exact H0.out.2))
      rw [Int.natCast_add, Int.natCast_add] at hC
      have HC := Lib.hid hC; clear hC
      go_wp2_with fail
      refine HC.out.mono ?_
      rintro e w1 ⟨rfl, hR1⟩
      have HR1 := Lib.hid hR1; clear hR1
      go_wp2_with fail
      go_roundw
      case rel => exact ⟨i + 1, M.swap t (a + i) (b + i), hlt, by go_num, HR1.out, HE.out⟩
      case measure => simp [intOf]; omega
    · go_wp2_with fail
      go_end0
      exact ⟨rfl, by
        have := HI.out.2
        rw [show k - i = 0 by omega] at this
        rw [← this]; exact HI.out.1⟩

set_option maxHeartbeats 1000000 in
theorem rotateI (H : IfaceS M ok R T rv gl gs n) (a m b : Nat) (ha : a < m) (hm : m < b) (hb : b ≤ n) (s : σ) (w : World) (hR : R s w) (hok : ok (rotate M a m b s)) :
    Calls Try.prog 131 #[.iface T rv, .int .i64 a, .int .i64 m, .int .i64 b] w (Leaves R (rotate M a m b s)) := by
  have hn := H.hn
  have HS := Lib.hid (fun a b k ha hb t wr => swapRangeI H a b k ha hb t wr)
  have HG := Lib.hid H.guard
  have H0 := Lib.hid (And.intro hR hok)
  clear H hR hok
  go_enter Try.func131, Try.ntmps131
  go_wp2_with fail
  go_loopw [8, 9] (fun vi vj wr => ∃ (i j f : Nat) (t : σ), 1 ≤ i ∧ 1 ≤ j ∧ i ≤ m ∧ m + j ≤ n ∧ vi = .int .i64 i ∧ vj = .int .i64 j ∧ i + j ≤ f ∧ Hid (R t wr ∧ rotL M m f i j t = rotate M a m b s)) (fun vi vj _ => (intOf vi).toNat + (intOf vj).toNat)
  case atStart => exact ⟨m - a, b - m, (m - a) + (b - m), s, by omega, by omega, by omega, by omega, by go_num, by go_num, Nat.le_refl _, H0.out.1, rfl⟩
  case round =>
    obtain ⟨i, j, f, t, hi, hj, him, hjn, rfl, rfl, hf, HI⟩ := hrel
    obtain ⟨f, rfl⟩ : ∃ g, f = g + 1 := ⟨f - 1, by omega⟩
    have cmi : ((m - i : Nat) : Int) = (m : Int) - (i : Int) := by omega
    have cmj : ((m + j - i : Nat) : Int) = (m : Int) + (j : Int) - (i : Int) := by omega
    have HM1 := Lib.hid cmi; have HM2 := Lib.hid cmj; clear cmi cmj
    by_cases hij : i = j
    · subst hij
      have hne : ((i : Int) != (i : Int)) = false := by simp
      have HE : Hid (swapR M (m - i) m i 0 t = rotate M a m b s) := Lib.hid (by
        have := HI.out.2
        unfold rotL at this
        rw [if_pos rfl] at this
        exact this)
      have hC := HS.out (m - i) m i (by omega) (by omega) t wr HI.out.1 (by rw [HE.out]; exact H0.out.2)
      rw [HM1.out] at hC
      have HC := Lib.hid hC; clear hC
      go_wp2_with fail
      refine HC.out.mono ?_
      rintro e w1 ⟨rfl, hR1⟩
      have HR1 := Lib.hid hR1; clear hR1
      go_wp2_with fail
      go_end0
      exact ⟨rfl, by rw [← HE.out]; exact HR1.out⟩
    · have hne : ((i : Int) != (j : Int)) = true := by simp; omega
      by_cases hgt : j < i
      · have hgz : (i : Int) > (j : Int) := by omega
        have HE : Hid (rotL M m f (i - j) j (swapR M (m - i) m j 0 t) = rotate M a m b s) := Lib.hid (by
          have := HI.out.2
          unfold rotL at this
          rw [if_neg hij, if_pos hgt] at this
          exact this)
        have hC := HS.out (m - i) m j (by omega) (by omega) t wr HI.out.1 (ok_rotL HG.out m f _ _ _ (by rw [HE.out]; exact H0.out.2))
        rw [HM1.out] at hC
        have HC := Lib.hid hC; clear hC
        go_wp2_with fail
        refine HC.out.mono ?_
        rintro e w1 ⟨rfl, hR1⟩
        have HR1 := Lib.hid hR1; clear hR1
        go_wp2_with fail
        go_roundw
        case rel => exact ⟨i - j, j, f, _, by omega, by omega, by omega, by omega, by go_num, rfl, by omega, HR1.out, HE.out⟩
        case measure => simp [intOf]; omega
      · have hgz : ¬ ((i : Int) > (j : Int)) := by omega
        have HE : Hid (rotL M m f i (j - i) (swapR M (m - i) (m + j - i) i 0 t) = rotate M a m b s) := Lib.hid (by
          have := HI.out.2
          unfold rotL at this
          rw [if_neg hij, if_neg hgt] at this
          exact this)
        have hC := HS.out (m - i) (m + j - i) i (by omega) (by omega) t wr HI.out.1 (ok_rotL HG.out m f _ _ _ (by rw [HE.out]; exact H0.out.2))
        rw [HM1.out, HM2.out] at hC
        have HC := Lib.hid hC; clear hC
        go_wp2_with fail
        refine HC.out.mono ?_
        rintro e w1 ⟨rfl, hR1⟩
        have HR1 := Lib.hid hR1; clear hR1
        go_wp2_with fail
        go_roundw
        case rel => exact ⟨i, j - i, f, _, by omega, by omega, by omega, by omega, rfl, by go_num, by omega, HR1.out, HE.out⟩
        case measure => simp [intOf]; omega

set_option maxHeartbeats 1000000 in
theorem insertionSortI (H : IfaceS M ok R T rv gl gs n) (a b : Nat) (hab : a ≤ b) (hb : b ≤ n) (s : σ) (w : World) (hR : R s w) (hok : ok (insSort M a b s)) :
    Calls Try.prog 81 #[.iface T rv, .int .i64 a, .int .i64 b] w (Leaves R (insSort M a b s)) := by
  have hn := H.hn
  have mS := H.mS
  have eS := H.eS
  have mL := H.mL
  have eL := H.eL
  have HS := Lib.hid H.swap
  have HL := Lib.hid H.less
  have HG := Lib.hid H.guard
  have H0 := Lib.hid (And.intro hR hok)
  clear H hR hok
  go_enter Try.func81, Try.ntmps81
  go_wp2_with fail
  go_loopw [6] (fun vi wr => ∃ (i : Nat) (t : σ), a + 1 ≤ i ∧ (i ≤ b ∨ i = a + 1) ∧ vi = .int .i64 i ∧ Hid (R t wr ∧ insOuter M a (b - i) i t = insSort M a b s)) (fun vi _ => b - (intOf vi).toNat)
  case atStart => exact ⟨a + 1, s, Nat.le_refl _, .inr rfl, by go_num, H0.out.1, rfl⟩
  case round =>
    obtain ⟨i, t, hai, hib, rfl, HI⟩ := hrel
    by_cases hlt : i < b
    · have HE : Hid (insOuter M a (b - (i + 1)) (i + 1) (insInner M a i t) = insSort M a b s) := Lib.hid (by
        have := HI.out.2
        rw [show b - i = (b - (i + 1)) + 1 by omega] at this
        exact this)
      have HK : Hid (ok (insInner M a i t)) := Lib.hid (ok_insOuter HG.out a (b - (i + 1)) (i + 1) _ (by rw [HE.out]; exact H0.out.2))
      go_wp2_with fail
      go_loopw [7] (fun vj wr2 => ∃ (j : Nat) (u : σ), a ≤ j ∧ j ≤ i ∧ vj = .int .i64 j ∧ Hid (R u wr2 ∧ insInner M a j u = insInner M a i t)) (fun vj _ => (intOf vj).toNat)
      case atStart => exact ⟨i, t, by omega, Nat.le_refl _, rfl, HI.out.1, rfl⟩
      case round =>
        obtain ⟨j, u, haj, hji, rfl, HJ⟩ := hrel
        by_cases hja : a < j
        · obtain ⟨j, rfl⟩ : ∃ x, j = x + 1 := ⟨j - 1, by omega⟩
          have hin : insInner M a (j + 1) u = if M.less u (j + 1) j = true then insInner M a j (M.swap (M.tick u (j + 1) j) (j + 1) j) else M.tick u (j + 1) j := by
            show (if a < j + 1 then _ else _) = _
            rw [if_pos hja]
          have hjz : ((j + 1 : Nat) : Int) > (a : Int) := by omega
          have hcj : ((j : Nat) : Int) = ((j + 1 : Nat) : Int) - 1 := by omega
          cases hv : M.less u (j + 1) j
          · rw [hv, if_neg (by simp), HJ.out.2] at hin
            have hL := HL.out u wr (j + 1) j (by omega) (by omega) HJ.out.1 (by rw [← hin]; exact HK.out)
            rw [hv, hcj] at hL
            have HC := Lib.hid hL; have HN := Lib.hid hin
            clear hL hin hv hcj
            generalize hj1 : j + 1 = j1 at *
            go_wp2_with fail
            refine HC.out.mono ?_
            rintro e w1 ⟨rfl, hR1⟩
            have HR1 := Lib.hid hR1; clear hR1
            go_wp2_with fail
            go_roundw
            case rel => exact ⟨i + 1, insInner M a i t, by omega, .inl (by omega), by go_num, by rw [HN.out]; exact HR1.out, HE.out⟩
            case measure => simp [intOf]; omega
          · rw [hv, if_pos rfl, HJ.out.2] at hin
            have hok1 : ok (M.swap (M.tick u (j + 1) j) (j + 1) j) := ok_insInner HG.out a j _ (by rw [← hin]; exact HK.out)
            have hL := HL.out u wr (j + 1) j (by omega) (by omega) HJ.out.1 (HG.out.swap _ _ _ hok1)
            have hS := fun w' hr => HS.out (M.tick u (j + 1) j) w' (j + 1) j (by omega) (by omega) hr hok1
            rw [hv, hcj] at hL
            rw [hcj] at hS
            have HC := Lib.hid hL; have HN := Lib.hid hin; have HW := Lib.hid hS; have HJ1 := Lib.hid hcj
            clear hL hin hv hcj hS hok1
            generalize hj1 : j + 1 = j1 at *
            go_wp2_with fail
            refine HC.out.mono ?_
            rintro e w1 ⟨rfl, hR1⟩
            have HR1 := Lib.hid hR1; clear hR1
            go_wp2_with fail
            refine (HW.out _ HR1.out).mono ?_
            rintro e w2 ⟨rfl, hR2⟩
            have HR2 := Lib.hid hR2; clear hR2
            go_wp2_with fail
            go_roundw
            case rel => exact ⟨j, _, by omega, by omega, by rw [HJ1.out], HR2.out, HN.out.symm⟩
            case measure => simp [intOf]; omega
        · have hjz : ¬ ((j : Int) > (a : Int)) := by omega
          have HN : Hid (insInner M a j u = u) := Lib.hid (by
            cases j with
            | zero => rfl
            | succ j => show (if a < j + 1 then _ else _) = _; rw [if_neg hja])
          go_wp2_with fail
          go_roundw
          case rel => exact ⟨i + 1, insInner M a i t, by omega, .inl (by omega), by go_num, by rw [← HJ.out.2, HN.out]; exact HJ.out.1, HE.out⟩
          case measure => simp [intOf]; omega
    · go_wp2_with fail
      go_end0
      exact ⟨rfl, by
        have := HI.out.2
        rw [show b - i = 0 by omega] at this
        rw [← this]; exact HI.out.1⟩
end
end Go.Proofs.Ytjammaglboehcaa
