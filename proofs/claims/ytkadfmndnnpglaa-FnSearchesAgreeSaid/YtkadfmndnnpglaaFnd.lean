/-
  The contract of sort.Find over this seat's program, for a function value whose calls keep a relation R between the numbers asked for and the world.
-/
import Derived.Test.YtkadfmndnnpglaaSrch
namespace Go.Proofs.Ytkadfmndnnpglaa
open Go.RowKit Go.Proofs
set_option linter.unusedVariables false

/-- What sort.Find returns and asks for, where c tells what the comparison returns. -/
def fnd (c : Nat → Int) (n : Nat) : Nat × Bool × List Nat :=
  ((srch (fun i => decide (c i ≤ 0)) n 0 n []).1, decide ((srch (fun i => decide (c i ≤ 0)) n 0 n []).1 < n) && (c (srch (fun i => decide (c i ≤ 0)) n 0 n []).1 == 0),
    if (srch (fun i => decide (c i ≤ 0)) n 0 n []).1 < n then (srch (fun i => decide (c i ≤ 0)) n 0 n []).2 ++ [(srch (fun i => decide (c i ≤ 0)) n 0 n []).1] else (srch (fun i => decide (c i ≤ 0)) n 0 n []).2)

theorem fnd_next (n : Nat) (sol : Nat × List Nat) {l : List Nat} (h : ∃ t, sol.2 = l ++ t) : ∃ t, (if sol.1 < n then sol.2 ++ [sol.1] else sol.2) = l ++ t := by
  obtain ⟨t, ht⟩ := h
  split
  · exact ⟨t ++ [sol.1], by rw [ht, List.append_assoc]⟩
  · exact ⟨t, ht⟩

set_option maxHeartbeats 1000000 in
theorem find_log (g : Nat) (cb : Array Value) (n : Nat) (c : Nat → Int) (R : List Nat → World → Prop) (w : World) (hn : n < 9223372036854775808)
    (eg : ∀ args w, (callFunc g args).run Try.prog w = .ok (.enter g args) w)
    (hf : ∀ (l : List Nat) (w : World) (i : Nat), i < n → (∃ t, (fnd c n).2.2 = (l ++ [i]) ++ t) → R l w → Calls Try.prog g (#[.int .i64 i] ++ cb) w fun e w' => e = .returned (.int .i64 (c i)) ∧ R (l ++ [i]) w')
    (h0 : R [] w) :
    Calls Try.prog 37 #[.int .i64 n, .func (.func g) #[] cb] w fun e w' => e = .returned (.tuple #[.int .i64 (fnd c n).1, .bool (fnd c n).2.1]) ∧ R (fnd c n).2.2 w' := by
  have H0 := Lib.hid h0; clear h0
  unfold fnd at hf ⊢
  generalize hs : srch (fun i => decide (c i ≤ 0)) n 0 n [] = sol at hf ⊢
  have HF := Lib.hid hf; clear hf
  have HS := Lib.hid hs; clear hs
  go_enter Try.func37, Try.ntmps37
  go_wp2
  go_loopg [4, 6] n (fun kx s5 s6 wr => ∃ (lo hi : Nat) (l : List Nat), s5 = .int .i64 lo ∧ s6 = .int .i64 hi ∧ lo ≤ hi ∧ hi ≤ n ∧ hi - lo ≤ kx ∧ Hid (R l wr ∧ srch (fun i => decide (c i ≤ 0)) kx lo hi l = sol))
  case atStart => exact ⟨0, n, [], rfl, rfl, Nat.zero_le _, Nat.le_refl _, by omega, ⟨H0.out, HS.out⟩⟩
  case round =>
    obtain ⟨lo, hi, l, rfl, rfl, hlh, hin, hg, HI⟩ := hrel
    by_cases hlt : lo < hi
    · have HC := Lib.hid (HF.out l wr ((lo + hi) / 2) (by omega) (fnd_next n _ (by rw [← HI.out.2]; exact srch_next _ gk lo hi l hlt hg)) HI.out.1)
      by_cases hp : c ((lo + hi) / 2) ≤ 0
      · go_wp2_with fail
        rw [half lo hi hlh (by omega)]
        refine (HC.out).mono ?_
        rintro e w' ⟨rfl, hR⟩
        have HR := Lib.hid hR; clear hR
        have HP := Lib.hid hp
        generalize c ((lo + hi) / 2) = cv at hp
        have hm : lo ≤ (lo + hi) / 2 ∧ (lo + hi) / 2 < hi := by omega
        go_wp2_with fail
        go_roundg ((lo + hi) / 2 - lo)
        case measure => omega
        case rel => exact ⟨lo, (lo + hi) / 2, _, rfl, rfl, by omega, by omega, by omega, HR.out, by rw [← HI.out.2]; exact (srch_yes _ gk lo hi l hlt hg (decide_eq_true HP.out)).symm⟩
      · go_wp2_with fail
        rw [half lo hi hlh (by omega)]
        refine (HC.out).mono ?_
        rintro e w' ⟨rfl, hR⟩
        have HR := Lib.hid hR; clear hR
        have HP := Lib.hid hp
        generalize c ((lo + hi) / 2) = cv at hp
        have hm : lo ≤ (lo + hi) / 2 ∧ (lo + hi) / 2 < hi := by omega
        go_wp2_with fail
        go_roundg (hi - ((lo + hi) / 2 + 1))
        case measure => omega
        case rel => exact ⟨(lo + hi) / 2 + 1, hi, _, by go_num, rfl, by omega, by omega, by omega, HR.out, by rw [← HI.out.2]; exact (srch_no _ gk lo hi l hlt hg (decide_eq_false (by have := HP.out; omega))).symm⟩
    · obtain ⟨hR, hS⟩ := HI.out
      rw [srch_stop _ _ _ _ _ hlt] at hS
      subst hS
      have HR := Lib.hid hR; clear hR
      by_cases hln : lo < n
      · have HC := Lib.hid (HF.out l wr lo hln ⟨[], by simp [hln]⟩ HR.out)
        go_wp2_with fail
        refine (HC.out).mono ?_
        rintro e w' ⟨rfl, hR2⟩
        have HR2 := Lib.hid hR2; clear hR2
        generalize hcv : c lo = cv
        have HV := Lib.hid hcv; clear hcv
        go_wp2_with fail
        go_ret2
        exact ⟨by simp [HV.out], by simpa [hln] using HR2.out⟩
      · have hd : decide ((lo : Int) < (n : Int)) = false := decide_eq_false (by omega)
        go_wp2_with fail
        go_ret2
        exact ⟨by simp, by simpa [hln] using HR.out⟩

theorem find_any (g : Nat) (cb : Array Value) (n : Nat) (c : Nat → Int) (R : List Nat → World → Prop) (w : World) (hn : n < 9223372036854775808)
    (eg : ∀ args w, (callFunc g args).run Try.prog w = .ok (.enter g args) w)
    (hf : ∀ (l : List Nat) (w : World) (i : Nat), i < n → R l w → Calls Try.prog g (#[.int .i64 i] ++ cb) w fun e w' => e = .returned (.int .i64 (c i)) ∧ R (l ++ [i]) w')
    (h0 : R [] w) :
    Calls Try.prog 37 #[.int .i64 n, .func (.func g) #[] cb] w fun e w' => e = .returned (.tuple #[.int .i64 (fnd c n).1, .bool (fnd c n).2.1]) ∧ R (fnd c n).2.2 w' :=
  find_log g cb n c R w hn eg (fun l w i hi _ hR => hf l w i hi hR) h0
end Go.Proofs.Ytkadfmndnnpglaa
