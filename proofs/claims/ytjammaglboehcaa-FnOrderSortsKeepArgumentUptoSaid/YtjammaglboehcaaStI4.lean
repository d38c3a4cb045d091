/-
  The walk of sort.stable and sort.Stable at an interface.
-/
import Derived.Test.YtjammaglboehcaaStI3
namespace Go.Proofs.Ytjammaglboehcaa
open Go.RowKit Go.Proofs
set_option linter.unusedVariables false

section
variable {σ : Type} {M : Mach σ} {n k a bs : Nat} {s : σ}
theorem stBlocks_stop (h : ¬ a + 20 ≤ n) : stBlocks M n k a s = (a, s) := by
  cases k with
  | zero => rfl
  | succ k => show (if a + 20 ≤ n then _ else _) = _; rw [if_neg h]
theorem stBlocks_go (h : a + 20 ≤ n) : stBlocks M n (k + 1) a s = stBlocks M n k (a + 20) (insSort M a (a + 20) s) := by
  show (if a + 20 ≤ n then _ else _) = _; rw [if_pos h]
theorem stPass_stop (h : ¬ a + 2 * bs ≤ n) : stPass M n bs k a s = (a, s) := by
  cases k with
  | zero => rfl
  | succ k => show (if a + 2 * bs ≤ n then _ else _) = _; rw [if_neg h]
theorem stPass_go (h : a + 2 * bs ≤ n) : stPass M n bs (k + 1) a s = stPass M n bs k (a + 2 * bs) (symMerge M a (a + bs) (a + 2 * bs) s) := by
  show (if a + 2 * bs ≤ n then _ else _) = _; rw [if_pos h]
theorem stLoop_stop (h : ¬ bs < n) : stLoop M n k bs s = s := by
  cases k with
  | zero => rfl
  | succ k => show (if bs < n then _ else _) = _; rw [if_neg h]
theorem stLoop_go (h : bs < n) : stLoop M n (k + 1) bs s = stLoop M n k (bs * 2) (stRound M n bs s) := by
  show (if bs < n then _ else _) = _; rw [if_pos h]
theorem stRound_more (t : σ) (hp : stPass M n bs n 0 s = (a, t)) (h : a + bs < n) : stRound M n bs s = symMerge M a (a + bs) n t := by
  unfold stRound; rw [hp]; dsimp only; rw [if_pos h]
theorem stRound_less (t : σ) (hp : stPass M n bs n 0 s = (a, t)) (h : ¬ a + bs < n) : stRound M n bs s = t := by
  unfold stRound; rw [hp]; dsimp only; rw [if_neg h]
end

section
variable {σ : Type} {M : Mach σ} {ok : σ → Prop} {R : σ → World → Prop} {T : TypeId} {rv : Value} {gl gs n : Nat}

set_option maxRecDepth 100000 in
set_option maxHeartbeats 4000000 in
theorem stableI (H : IfaceS M ok R T rv gl gs n) (s : σ) (w : World) (hR : R s w) (hok : ok (stable M n s)) :
    Calls Try.prog 62 #[.iface T rv, .int .i64 n] w (Leaves R (stable M n s)) := by
  have hn := H.hn
  have HG := Lib.hid H.guard
  have HIn := Lib.hid (fun a b hab hb t wr => insertionSortI H a b hab hb t wr)
  have HSy := Lib.hid (fun a m b t wr h1 h2 h3 => symMergeI H (b - a) a m b t wr h1 h2 h3 (Nat.le_refl _))
  have H0 := Lib.hid (And.intro hR hok)
  have HK0 : Hid (ok (stLoop M n n 20 (insSort M (stBlocks M n n 0 s).1 n (stBlocks M n n 0 s).2))) := Lib.hid hok
  clear H hR hok
  go_enter Try.func62, Try.ntmps62
  go_wp2_with fail
  go_loopw [5, 6] (fun va vb wr => ∃ (a b k : Nat) (t : σ), a ≤ n ∧ b = a + 20 ∧ va = .int .i64 a ∧ vb = .int .i64 b ∧ n - a ≤ k ∧ Hid (R t wr ∧ stBlocks M n k a t = stBlocks M n n 0 s)) (fun va _ _ => n - (intOf va).toNat)
  case atStart => exact ⟨0, 20, n, s, Nat.zero_le _, rfl, rfl, rfl, Nat.le_refl _, H0.out.1, rfl⟩
  case round =>
    obtain ⟨a, b, k, t, han, hb20, rfl, rfl, hk, HI⟩ := hrel
    by_cases hlt : b ≤ n
    · obtain ⟨k, rfl⟩ : ∃ g, k = g + 1 := ⟨k - 1, by omega⟩
      have HE := Lib.hid (HI.out.2.symm.trans (stBlocks_go (show a + 20 ≤ n by omega)))
      have HB : Hid (ok (insSort M a b t)) := Lib.hid (by
        rw [hb20]
        exact ok_stBlocks HG.out n k _ _ (by rw [← HE.out]; exact ok_insSort HG.out _ _ _ (ok_stLoop HG.out _ _ _ _ HK0.out)))
      have HC := Lib.hid (HIn.out a b (by omega) hlt t wr HI.out.1 HB.out)
      have HB20 := Lib.hid hb20; clear hb20
      have hbz : a + 20 ≤ b ∧ b ≤ a + 20 := by have := HB20.out; omega
      go_wp2_with fail
      refine HC.out.mono ?_
      rintro e w1 ⟨rfl, hR1⟩
      have HR1 := Lib.hid hR1; clear hR1
      go_wp2_with fail
      go_roundw
      case rel => exact ⟨b, b + 20, k, _, hlt, rfl, rfl, by go_num, by omega, HR1.out, by rw [HE.out, HB20.out]⟩
      case measure => simp [intOf]; omega
    · have HE := Lib.hid (HI.out.2.symm.trans (stBlocks_stop (show ¬ a + 20 ≤ n by omega)))
      have HK1 : Hid (ok (stLoop M n n 20 (insSort M a n t))) := Lib.hid (by have := HK0.out; rw [HE.out] at this; exact this)
      have HF1 : Hid (stLoop M n n 20 (insSort M a n t) = stable M n s) := Lib.hid (by unfold stable; rw [HE.out])
      have HC := Lib.hid (HIn.out a n han (Nat.le_refl _) t wr HI.out.1 (ok_stLoop HG.out _ _ _ _ HK1.out))
      clear HE
      go_wp2_with fail
      refine HC.out.mono ?_
      rintro e w1 ⟨rfl, hR1⟩
      have HR1 := Lib.hid hR1; clear hR1
      go_wp2_with fail
      go_loopw [4] (fun vs wr => ∃ (bs k : Nat) (t : σ), 20 ≤ bs ∧ bs ≤ 2 * n + 20 ∧ vs = .int .i64 bs ∧ n - bs ≤ k ∧ Hid (R t wr ∧ stLoop M n k bs t = stable M n s)) (fun vs _ => n - (intOf vs).toNat)
      case atStart => exact ⟨20, n, _, Nat.le_refl _, by omega, rfl, by omega, HR1.out, HF1.out⟩
      case round =>
        clear HR1 HC HI
        obtain ⟨bs, k, t, hbs, hbn, rfl, hk, HI⟩ := hrel
        by_cases hlt2 : bs < n
        · obtain ⟨k, rfl⟩ : ∃ g, k = g + 1 := ⟨k - 1, by omega⟩
          have HE := Lib.hid (HI.out.2.symm.trans (stLoop_go hlt2))
          have HKr : Hid (ok (stRound M n bs t)) := Lib.hid (ok_stLoop HG.out _ _ _ _ (by rw [← HE.out]; exact H0.out.2))
          have HKp : Hid (ok (stPass M n bs n 0 t).2) := Lib.hid (by
            have := HKr.out
            unfold stRound at this
            dsimp only at this
            split at this
            · exact ok_symMerge HG.out _ _ _ _ this
            · exact this)
          go_wp2_with fail
          go_loopw [5, 6] (fun va vb wr => ∃ (a b q : Nat) (u : σ), a ≤ n ∧ b = a + 2 * bs ∧ va = .int .i64 a ∧ vb = .int .i64 b ∧ n - a ≤ q ∧ Hid (R u wr ∧ stPass M n bs q a u = stPass M n bs n 0 t)) (fun va _ _ => n - (intOf va).toNat)
          case atStart => exact ⟨0, 2 * bs, n, t, Nat.zero_le _, by omega, rfl, by go_num, Nat.le_refl _, HI.out.1, rfl⟩
          case round =>
            obtain ⟨a, b, q, u, han, hb2, rfl, rfl, hq, HJ⟩ := hrel
            by_cases hlt3 : b ≤ n
            · obtain ⟨q, rfl⟩ : ∃ g, q = g + 1 := ⟨q - 1, by omega⟩
              have HE2 := Lib.hid (HJ.out.2.symm.trans (stPass_go (show a + 2 * bs ≤ n by omega)))
              have HB : Hid (ok (symMerge M a (a + bs) b u)) := Lib.hid (by
                rw [hb2]
                exact ok_stPass HG.out n bs q _ _ (by rw [← HE2.out]; exact HKp.out))
              have hC := HSy.out a (a + bs) b u wr (by omega) (by omega) hlt3 HJ.out.1 HB.out
              rw [Int.natCast_add] at hC
              have HC := Lib.hid hC; clear hC
              have HB2 := Lib.hid hb2; clear hb2
              have hbz : a + 2 * bs ≤ b ∧ b ≤ a + 2 * bs := by have := HB2.out; omega
              go_wp2_with fail
              refine HC.out.mono ?_
              rintro e w1 ⟨rfl, hR1⟩
              have HR1 := Lib.hid hR1; clear hR1
              go_wp2_with fail
              go_roundw
              case rel => exact ⟨b, b + 2 * bs, q, _, hlt3, rfl, rfl, by go_num, by omega, HR1.out, by rw [HE2.out, ← HB2.out]; rfl⟩
              case measure => simp [intOf]; omega
            · have HE2 := Lib.hid (HJ.out.2.symm.trans (stPass_stop (show ¬ a + 2 * bs ≤ n by omega)))
              by_cases hmn : a + bs < n
              · have HRd := Lib.hid (stRound_more u HE2.out hmn)
                have hC := HSy.out a (a + bs) n u wr (by omega) hmn (Nat.le_refl _) HJ.out.1 (by have := HKr.out; rw [HRd.out] at this; exact this)
                rw [Int.natCast_add] at hC
                have HC := Lib.hid hC; clear hC
                have hmz : (a : Int) + (bs : Int) < (n : Int) := by omega
                go_wp2_with fail
                refine HC.out.mono ?_
                rintro e w1 ⟨rfl, hR1⟩
                have HR1 := Lib.hid hR1; clear hR1
                go_wp2_with fail
                go_roundw
                case rel => exact ⟨bs * 2, k, _, by omega, by omega, by go_num, by omega, HR1.out, by rw [HE.out, HRd.out]; rfl⟩
                case measure => simp [intOf]; omega
              · have HRd := Lib.hid (stRound_less u HE2.out hmn)
                have hmz : ¬ ((a : Int) + (bs : Int) < (n : Int)) := by omega
                go_wp2_with fail
                go_roundw
                case rel => exact ⟨bs * 2, k, _, by omega, by omega, by go_num, by omega, HJ.out.1, by rw [HE.out, HRd.out]⟩
                case measure => simp [intOf]; omega
        · have HE := Lib.hid (HI.out.2.symm.trans (stLoop_stop hlt2))
          go_wp2_with fail
          go_end0
          exact ⟨rfl, by rw [HE.out]; exact HI.out.1⟩
end
end Go.Proofs.Ytjammaglboehcaa
