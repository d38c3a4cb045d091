/-
  The contract of sort.Search over this seat's program: for a function value whose calls keep a relation R between the numbers asked for and the world, it returns what the plain search returns.
-/
import Derived.Test.YtkadfmndnnpglaaProg
import Derived.Test.YtkadfmndnnpglaaWords
import Derived.Test.YtkadfmndnnpglaaSrchPlain
namespace Go.Proofs.Ytkadfmndnnpglaa
open Go.RowKit

theorem half (lo hi : Nat) (h1 : lo ≤ hi) (h2 : hi < 9223372036854775808) : wrap64 (IntKind.u64.wrap (wrap64 ((lo : Int) + (hi : Int))) / 2) = (((lo + hi) / 2 : Nat) : Int) := by
  rw [IntKind.wrap_u64]
  unfold wrap64
  omega

theorem srch_next (p : Nat → Bool) (f lo hi : Nat) (l : List Nat) (h : lo < hi) (hf : hi - lo ≤ f) : ∃ t, (srch p f lo hi l).2 = (l ++ [(lo + hi) / 2]) ++ t := by
  cases hp : p ((lo + hi) / 2) with
  | true => rw [srch_yes p f lo hi l h hf hp]; exact srch_log _ _ _ _ _
  | false => rw [srch_no p f lo hi l h hf hp]; exact srch_log _ _ _ _ _

set_option maxHeartbeats 1000000 in
theorem search_log (g : Nat) (cb : Array Value) (n : Nat) (p : Nat → Bool) (R : List Nat → World → Prop) (w : World) (hn : n < 9223372036854775808)
    (eg : ∀ args w, (callFunc g args).run Try.prog w = .ok (.enter g args) w)
    (hf : ∀ (l : List Nat) (w : World) (i : Nat), i < n → (∃ t, (srch p n 0 n []).2 = (l ++ [i]) ++ t) → R l w → Calls Try.prog g (#[.int .i64 i] ++ cb) w fun e w' => e = .returned (.bool (p i)) ∧ R (l ++ [i]) w')
    (h0 : R [] w) :
    Calls Try.prog 34 #[.int .i64 n, .func (.func g) #[] cb] w fun e w' => e = .returned (.int .i64 (srch p n 0 n []).1) ∧ R (srch p n 0 n []).2 w' := by
  have H0 := Lib.hid h0; clear h0
  generalize hs : srch p n 0 n [] = sol at hf ⊢
  have HF := Lib.hid hf; clear hf
  have HS := Lib.hid hs; clear hs
  go_enter Try.func34, Try.ntmps34
  go_wp2
  go_loopg [5, 6] n (fun kx s5 s6 wr => ∃ (lo hi : Nat) (l : List Nat), s5 = .int .i64 lo ∧ s6 = .int .i64 hi ∧ lo ≤ hi ∧ hi ≤ n ∧ hi - lo ≤ kx ∧ Hid (R l wr ∧ srch p kx lo hi l = sol))
  case atStart => exact ⟨0, n, [], rfl, rfl, Nat.zero_le _, Nat.le_refl _, by omega, ⟨H0.out, HS.out⟩⟩
  case round =>
    obtain ⟨lo, hi, l, rfl, rfl, hlh, hin, hg, HI⟩ := hrel
    by_cases hlt : lo < hi
    · have hc := HF.out l wr ((lo + hi) / 2) (by omega) (by rw [← HI.out.2]; exact srch_next p gk lo hi l hlt hg) HI.out.1
      cases hp : p ((lo + hi) / 2) with
      | true =>
        rw [hp] at hc
        have HP := Lib.hid hp; have HC := Lib.hid hc; clear hp hc
        go_wp2_with fail
        rw [half lo hi hlh (by omega)]
        refine (HC.out).mono ?_
        rintro e w' ⟨rfl, hR⟩
        have HR := Lib.hid hR; clear hR
        have hm : lo ≤ (lo + hi) / 2 ∧ (lo + hi) / 2 < hi := by omega
        go_wp2_with fail
        go_roundg ((lo + hi) / 2 - lo)
        case measure => omega
        case rel => exact ⟨lo, (lo + hi) / 2, _, rfl, rfl, by omega, by omega, by omega, HR.out, by rw [← HI.out.2]; exact (srch_yes p gk lo hi l hlt hg HP.out).symm⟩
      | false =>
        rw [hp] at hc
        have HP := Lib.hid hp; have HC := Lib.hid hc; clear hp hc
        go_wp2_with fail
        rw [half lo hi hlh (by omega)]
        refine (HC.out).mono ?_
        rintro e w' ⟨rfl, hR⟩
        have HR := Lib.hid hR; clear hR
        have hm : lo ≤ (lo + hi) / 2 ∧ (lo + hi) / 2 < hi := by omega
        go_wp2_with fail
        go_roundg (hi - ((lo + hi) / 2 + 1))
        case measure => omega
        case rel => exact ⟨(lo + hi) / 2 + 1, hi, _, by go_num, rfl, by omega, by omega, by omega, HR.out, by rw [← HI.out.2]; exact (srch_no p gk lo hi l hlt hg HP.out).symm⟩
    · obtain ⟨hR, hS⟩ := HI.out
      rw [srch_stop _ _ _ _ _ hlt] at hS
      have HR := Lib.hid hR; have HS2 := Lib.hid hS; clear hR hS
      go_wp2_with fail
      go_ret
      rw [← HS2.out]
      exact ⟨rfl, HR.out⟩

theorem search_any (g : Nat) (cb : Array Value) (n : Nat) (p : Nat → Bool) (R : List Nat → World → Prop) (w : World) (hn : n < 9223372036854775808)
    (eg : ∀ args w, (callFunc g args).run Try.prog w = .ok (.enter g args) w)
    (hf : ∀ (l : List Nat) (w : World) (i : Nat), i < n → R l w → Calls Try.prog g (#[.int .i64 i] ++ cb) w fun e w' => e = .returned (.bool (p i)) ∧ R (l ++ [i]) w')
    (h0 : R [] w) :
    Calls Try.prog 34 #[.int .i64 n, .func (.func g) #[] cb] w fun e w' => e = .returned (.int .i64 (srch p n 0 n []).1) ∧ R (srch p n 0 n []).2 w' :=
  search_log g cb n p R w hn eg (fun l w i hi _ hR => hf l w i hi hR) h0
end Go.Proofs.Ytkadfmndnnpglaa
