/-
  The walks of weak and inOrder.
-/
import Derived.Test.YtjammaglboehcaaOrd2
namespace Go.Proofs.Ytjammaglboehcaa
open Go.RowKit Go.Proofs
set_option linter.unusedVariables false

/-- What weak asks of three numbers. -/
def weak3 (r : Int → Int → Bool) (a b c : Int) : Bool := !(r a b && r b c && !r a c) && !(!r a b && !r b a && !r b c && !r c b && (r a c || r c a))
def WeakP (r : Int → Int → Bool) (f : Nat → Int) (n : Nat) : Prop :=
  ∀ i, i < n → r (f i) (f i) = false ∧ ∀ j, j < n → (r (f i) (f j) && r (f j) (f i)) = false ∧ ∀ k, k < n → weak3 r (f i) (f j) (f k) = true

/-- A call that tells whether p and keeps memory. -/
def TellsB (p : Prop) (w : World) (e : Ending) (w' : World) : Prop := ∃ b : Bool, e = .returned (.bool b) ∧ (b = true ↔ p) ∧ Below w.heap.size w w'

/-- Memory behind calls, and the box of a relation in it. -/
structure BoxInv (w : World) (sz : Int) (A : Option Addr) (m c : Nat) (w' : World) : Prop where
  bel : Below w.heap.size w w'
  lt : w.heap.size < w'.heap.size
  c0 : w'.cell? ⟨w.heap.size, 0, none⟩ = some (.int .i64 sz)
  c1 : w'.cell? ⟨w.heap.size, 1, none⟩ = some (.slice A m c)
theorem BoxInv.step {w w1 w2 : World} {sz : Int} {A : Option Addr} {m c : Nat} (h : BoxInv w sz A m c w1) (hb : Below w1.heap.size w1 w2) : BoxInv w sz A m c w2 :=
  ⟨h.bel.trans (hb.mono h.bel.size), Nat.lt_of_lt_of_le h.lt hb.size, (hb.cell (p := ⟨w.heap.size, 0, none⟩) h.lt).trans h.c0, (hb.cell (p := ⟨w.heap.size, 1, none⟩) h.lt).trans h.c1⟩
theorem BoxInv.first (w : World) (sz : Int) (A : Option Addr) (m c : Nat) (t : TypeId) : BoxInv w sz A m c (w.alloc (.cells #[.int .i64 sz, .slice A m c] t)) :=
  ⟨(Below.refl _ _).alloc (Nat.le_refl _) _, by simp, by simp [go_sem], by simp [go_sem]⟩
theorem BoxInv.drewN {w w1 : World} {sz : Int} {A : Option Addr} {m c : Nat} (h : BoxInv w sz A m c w1) (q : Nat) : BoxInv w sz A m c (w1.drewN q) :=
  ⟨below_drewN h.bel q, h.lt, h.c0, h.c1⟩
set_option maxRecDepth 100000 in
set_option maxHeartbeats 8000000 in
theorem weak (sz : Int) (A : Option Addr) (m c B : Nat) (g : Nat → Bool) (A' : Option Addr) (n c' B' : Nat) (f : Nat → Int) (w : World) (hsz : I64 sz) (hm : m ≤ 140737488351232) (hB : B ≤ w.heap.size) (hrd : Rd w B Value.bool A m g)
    (hf64 : ∀ i, I64 (f i)) (hn : n ≤ 4611686018427387903) (hB' : B' ≤ w.heap.size) (hrd' : Rd w B' (Value.int .i64) A' n f) :
    Calls Try.prog 31 #[.agg #[.int .i64 sz, .slice A m c], .slice A' n c'] w (TellsB (WeakP (relB sz m g) f n) w) := by
  have HC := Lib.hid (fun i j w' (v : Bool) (hv : relB sz m g (f i) (f j) = v) (hi : BoxInv w sz A m c w') => (comes sz (f i) (f j) A m c B g w' hsz (hf64 i) (hf64 j) hm (Nat.le_trans hB hi.bel.size) (hrd.keep hi.bel hB)).mono (R' := fun e w2 => e = .returned (.bool v) ∧ BoxInv w sz A m c w2) fun e w2 h => ⟨by rw [← hv]; exact h.1, hi.step h.2⟩)
  have HR := Lib.hid (fun w' (hbel : Below w.heap.size w w') => hrd'.keep hbel hB')
  clear hrd hrd' hB hB' hf64 hsz
  generalize relB sz m g = r at *
  have H0 := Lib.hid (BoxInv.first w sz A m c 38)
  go_enter Try.func31, Try.ntmps31
  go_wp2_with fail
  go_loopw [13] (fun vi wr => ∃ i : Nat, i ≤ n ∧ vi = .int .i64 i ∧ Hid (BoxInv w sz A m c wr ∧ ∀ i', i' < i → r (f i') (f i') = false ∧ ∀ j, j < n → (r (f i') (f j) && r (f j) (f i')) = false ∧ ∀ k, k < n → weak3 r (f i') (f j) (f k) = true)) (fun vi _ => n - (intOf vi).toNat)
  case atStart => exact ⟨0, Nat.zero_le _, rfl, H0.out, fun i' h => absurd h (Nat.not_lt_zero _)⟩
  case round =>
    clear H0
    obtain ⟨i, hi, rfl, HI⟩ := hrel
    by_cases hlt : i < n
    · obtain ⟨b, off, rfl, hbB, hc⟩ := (HR.out _ HI.out.1.bel).at hlt
      have p0 := HI.out.1.c0
      have p1 := HI.out.1.c1
      cases haa : r (f i) (f i)
      · have Haa := Lib.hid haa; clear haa
        go_wp2_with fail
        refine (HC.out i i _ false Haa.out HI.out.1).mono ?_
        rintro e w1 ⟨rfl, hi1⟩
        have H1 := Lib.hid hi1
        clear hi1 p0 p1 hc
        go_wp2_with fail
        go_loopw [23] (fun vj wr2 => ∃ j : Nat, j ≤ n ∧ vj = .int .i64 j ∧ Hid (BoxInv w sz A m c wr2 ∧ ∀ j', j' < j → (r (f i) (f j') && r (f j') (f i)) = false ∧ ∀ k, k < n → weak3 r (f i) (f j') (f k) = true)) (fun vj _ => n - (intOf vj).toNat)
        case atStart => exact ⟨0, Nat.zero_le _, rfl, H1.out, fun j' h => absurd h (Nat.not_lt_zero _)⟩
        case round =>
          clear H1
          obtain ⟨j, hj, rfl, HJ⟩ := hrel
          by_cases hltj : j < n
          · obtain ⟨b2, off2, hA2, hbB2, hc⟩ := (HR.out _ HJ.out.1.bel).at hltj
            simp only [Option.some.injEq, Addr.mk.injEq, and_true] at hA2
            obtain ⟨rfl, rfl⟩ := hA2
            have p0 := HJ.out.1.c0
            have p1 := HJ.out.1.c1
            cases hab : r (f i) (f j)
            · have Hab := Lib.hid hab; clear hab
              cases hba : r (f j) (f i)
              · have Hba := Lib.hid hba; clear hba
                go_wp2_with fail
                refine (HC.out i j _ false Hab.out HJ.out.1).mono ?_
                rintro e u0 ⟨rfl, hi0⟩
                have Q0 := Lib.hid hi0
                have p0 := Q0.out.c0
                have p1 := Q0.out.c1
                clear hi0
                have HQ := Q0
                clear p0 p1 hc
                go_wp2_with fail
                go_loopw [39] (fun vk wr3 => ∃ k : Nat, k ≤ n ∧ vk = .int .i64 k ∧ Hid (BoxInv w sz A m c wr3 ∧ ∀ k', k' < k → weak3 r (f i) (f j) (f k') = true)) (fun vk _ => n - (intOf vk).toNat)
                case atStart => exact ⟨0, Nat.zero_le _, rfl, HQ.out, fun k' h => absurd h (Nat.not_lt_zero _)⟩
                case round =>
                  clear HQ
                  obtain ⟨k, hk, rfl, HK⟩ := hrel
                  by_cases hltk : k < n
                  · obtain ⟨b3, off3, hA3, hbB3, hc⟩ := (HR.out _ HK.out.1.bel).at hltk
                    simp only [Option.some.injEq, Addr.mk.injEq, and_true] at hA3
                    obtain ⟨rfl, rfl⟩ := hA3
                    have p0 := HK.out.1.c0
                    have p1 := HK.out.1.c1
                    cases hbc : r (f j) (f k)
                    · have Hbc := Lib.hid hbc; clear hbc
                      cases hcb : r (f k) (f j)
                      · have Hcb := Lib.hid hcb; clear hcb
                        cases hac : r (f i) (f k)
                        · have Hac := Lib.hid hac; clear hac
                          cases hca : r (f k) (f i)
                          · have Hca := Lib.hid hca; clear hca
                            go_wp2_with fail
                            refine (HC.out i j _ false Hab.out HK.out.1).mono ?_
                            rintro e v0 ⟨rfl, hi0⟩
                            have J0 := Lib.hid hi0
                            have p0 := J0.out.c0
                            have p1 := J0.out.c1
                            clear hi0
                            go_wp2_with fail
                            refine (HC.out i j _ false Hab.out J0.out).mono ?_
                            rintro e v1 ⟨rfl, hi1⟩
                            have J1 := Lib.hid hi1
                            have p0 := J1.out.c0
                            have p1 := J1.out.c1
                            clear hi1
                            go_wp2_with fail
                            refine (HC.out j i _ false Hba.out J1.out).mono ?_
                            rintro e v2 ⟨rfl, hi2⟩
                            have J2 := Lib.hid hi2
                            have p0 := J2.out.c0
                            have p1 := J2.out.c1
                            clear hi2
                            go_wp2_with fail
                            refine (HC.out j k _ false Hbc.out J2.out).mono ?_
                            rintro e v3 ⟨rfl, hi3⟩
                            have J3 := Lib.hid hi3
                            have p0 := J3.out.c0
                            have p1 := J3.out.c1
                            clear hi3
                            go_wp2_with fail
                            refine (HC.out k j _ false Hcb.out J3.out).mono ?_
                            rintro e v4 ⟨rfl, hi4⟩
                            have J4 := Lib.hid hi4
                            have p0 := J4.out.c0
                            have p1 := J4.out.c1
                            clear hi4
                            go_wp2_with fail
                            refine (HC.out i k _ false Hac.out J4.out).mono ?_
                            rintro e v5 ⟨rfl, hi5⟩
                            have J5 := Lib.hid hi5
                            have p0 := J5.out.c0
                            have p1 := J5.out.c1
                            clear hi5
                            go_wp2_with fail
                            refine (HC.out k i _ false Hca.out J5.out).mono ?_
                            rintro e v6 ⟨rfl, hi6⟩
                            have J6 := Lib.hid hi6
                            have p0 := J6.out.c0
                            have p1 := J6.out.c1
                            clear hi6
                            go_wp2_with fail
                            go_roundw
                            case rel => exact ⟨k + 1, hltk, by go_num, J6.out, fun k' hk' => by
                              rcases Nat.lt_succ_iff_lt_or_eq.1 hk' with h | h
                              · exact HK.out.2 k' h
                              · subst h; unfold weak3; simp [Hab.out, Hba.out, Hbc.out, Hcb.out, Hac.out, Hca.out]⟩
                            case measure => simp [intOf]; omega
                          · have Hca := Lib.hid hca; clear hca
                            go_wp2_with fail
                            refine (HC.out i j _ false Hab.out HK.out.1).mono ?_
                            rintro e v0 ⟨rfl, hi0⟩
                            have J0 := Lib.hid hi0
                            have p0 := J0.out.c0
                            have p1 := J0.out.c1
                            clear hi0
                            go_wp2_with fail
                            refine (HC.out i j _ false Hab.out J0.out).mono ?_
                            rintro e v1 ⟨rfl, hi1⟩
                            have J1 := Lib.hid hi1
                            have p0 := J1.out.c0
                            have p1 := J1.out.c1
                            clear hi1
                            go_wp2_with fail
                            refine (HC.out j i _ false Hba.out J1.out).mono ?_
                            rintro e v2 ⟨rfl, hi2⟩
                            have J2 := Lib.hid hi2
                            have p0 := J2.out.c0
                            have p1 := J2.out.c1
                            clear hi2
                            go_wp2_with fail
                            refine (HC.out j k _ false Hbc.out J2.out).mono ?_
                            rintro e v3 ⟨rfl, hi3⟩
                            have J3 := Lib.hid hi3
                            have p0 := J3.out.c0
                            have p1 := J3.out.c1
                            clear hi3
                            go_wp2_with fail
                            refine (HC.out k j _ false Hcb.out J3.out).mono ?_
                            rintro e v4 ⟨rfl, hi4⟩
                            have J4 := Lib.hid hi4
                            have p0 := J4.out.c0
                            have p1 := J4.out.c1
                            clear hi4
                            go_wp2_with fail
                            refine (HC.out i k _ false Hac.out J4.out).mono ?_
                            rintro e v5 ⟨rfl, hi5⟩
                            have J5 := Lib.hid hi5
                            have p0 := J5.out.c0
                            have p1 := J5.out.c1
                            clear hi5
                            go_wp2_with fail
                            refine (HC.out k i _ true Hca.out J5.out).mono ?_
                            rintro e v6 ⟨rfl, hi6⟩
                            have J6 := Lib.hid hi6
                            have p0 := J6.out.c0
                            have p1 := J6.out.c1
                            clear hi6
                            go_wp2_with fail
                            go_ret
                            exact ⟨false, rfl, ⟨(fun h => by cases h), (fun h => by have := ((h i hlt).2 j hltj).2 k hltk; unfold weak3 at this; simp [Hab.out, Hba.out, Hbc.out, Hcb.out, Hac.out, Hca.out] at this)⟩, J6.out.bel⟩
                        · have Hac := Lib.hid hac; clear hac
                          go_wp2_with fail
                          refine (HC.out i j _ false Hab.out HK.out.1).mono ?_
                          rintro e v0 ⟨rfl, hi0⟩
                          have J0 := Lib.hid hi0
                          have p0 := J0.out.c0
                          have p1 := J0.out.c1
                          clear hi0
                          go_wp2_with fail
                          refine (HC.out i j _ false Hab.out J0.out).mono ?_
                          rintro e v1 ⟨rfl, hi1⟩
                          have J1 := Lib.hid hi1
                          have p0 := J1.out.c0
                          have p1 := J1.out.c1
                          clear hi1
                          go_wp2_with fail
                          refine (HC.out j i _ false Hba.out J1.out).mono ?_
                          rintro e v2 ⟨rfl, hi2⟩
                          have J2 := Lib.hid hi2
                          have p0 := J2.out.c0
                          have p1 := J2.out.c1
                          clear hi2
                          go_wp2_with fail
                          refine (HC.out j k _ false Hbc.out J2.out).mono ?_
                          rintro e v3 ⟨rfl, hi3⟩
                          have J3 := Lib.hid hi3
                          have p0 := J3.out.c0
                          have p1 := J3.out.c1
                          clear hi3
                          go_wp2_with fail
                          refine (HC.out k j _ false Hcb.out J3.out).mono ?_
                          rintro e v4 ⟨rfl, hi4⟩
                          have J4 := Lib.hid hi4
                          have p0 := J4.out.c0
                          have p1 := J4.out.c1
                          clear hi4
                          go_wp2_with fail
                          refine (HC.out i k _ true Hac.out J4.out).mono ?_
                          rintro e v5 ⟨rfl, hi5⟩
                          have J5 := Lib.hid hi5
                          have p0 := J5.out.c0
                          have p1 := J5.out.c1
                          clear hi5
                          go_wp2_with fail
                          go_ret
                          exact ⟨false, rfl, ⟨(fun h => by cases h), (fun h => by have := ((h i hlt).2 j hltj).2 k hltk; unfold weak3 at this; simp [Hab.out, Hba.out, Hbc.out, Hcb.out, Hac.out] at this)⟩, J5.out.bel⟩
                      · have Hcb := Lib.hid hcb; clear hcb
                        go_wp2_with fail
                        refine (HC.out i j _ false Hab.out HK.out.1).mono ?_
                        rintro e v0 ⟨rfl, hi0⟩
                        have J0 := Lib.hid hi0
                        have p0 := J0.out.c0
                        have p1 := J0.out.c1
                        clear hi0
                        go_wp2_with fail
                        refine (HC.out i j _ false Hab.out J0.out).mono ?_
                        rintro e v1 ⟨rfl, hi1⟩
                        have J1 := Lib.hid hi1
                        have p0 := J1.out.c0
                        have p1 := J1.out.c1
                        clear hi1
                        go_wp2_with fail
                        refine (HC.out j i _ false Hba.out J1.out).mono ?_
                        rintro e v2 ⟨rfl, hi2⟩
                        have J2 := Lib.hid hi2
                        have p0 := J2.out.c0
                        have p1 := J2.out.c1
                        clear hi2
                        go_wp2_with fail
                        refine (HC.out j k _ false Hbc.out J2.out).mono ?_
                        rintro e v3 ⟨rfl, hi3⟩
                        have J3 := Lib.hid hi3
                        have p0 := J3.out.c0
                        have p1 := J3.out.c1
                        clear hi3
                        go_wp2_with fail
                        refine (HC.out k j _ true Hcb.out J3.out).mono ?_
                        rintro e v4 ⟨rfl, hi4⟩
                        have J4 := Lib.hid hi4
                        have p0 := J4.out.c0
                        have p1 := J4.out.c1
                        clear hi4
                        go_wp2_with fail
                        go_roundw
                        case rel => exact ⟨k + 1, hltk, by go_num, J4.out, fun k' hk' => by
                          rcases Nat.lt_succ_iff_lt_or_eq.1 hk' with h | h
                          · exact HK.out.2 k' h
                          · subst h; unfold weak3; simp [Hab.out, Hba.out, Hbc.out, Hcb.out]⟩
                        case measure => simp [intOf]; omega
                    · have Hbc := Lib.hid hbc; clear hbc
                      go_wp2_with fail
                      refine (HC.out i j _ false Hab.out HK.out.1).mono ?_
                      rintro e v0 ⟨rfl, hi0⟩
                      have J0 := Lib.hid hi0
                      have p0 := J0.out.c0
                      have p1 := J0.out.c1
                      clear hi0
                      go_wp2_with fail
                      refine (HC.out i j _ false Hab.out J0.out).mono ?_
                      rintro e v1 ⟨rfl, hi1⟩
                      have J1 := Lib.hid hi1
                      have p0 := J1.out.c0
                      have p1 := J1.out.c1
                      clear hi1
                      go_wp2_with fail
                      refine (HC.out j i _ false Hba.out J1.out).mono ?_
                      rintro e v2 ⟨rfl, hi2⟩
                      have J2 := Lib.hid hi2
                      have p0 := J2.out.c0
                      have p1 := J2.out.c1
                      clear hi2
                      go_wp2_with fail
                      refine (HC.out j k _ true Hbc.out J2.out).mono ?_
                      rintro e v3 ⟨rfl, hi3⟩
                      have J3 := Lib.hid hi3
                      have p0 := J3.out.c0
                      have p1 := J3.out.c1
                      clear hi3
                      go_wp2_with fail
                      go_roundw
                      case rel => exact ⟨k + 1, hltk, by go_num, J3.out, fun k' hk' => by
                        rcases Nat.lt_succ_iff_lt_or_eq.1 hk' with h | h
                        · exact HK.out.2 k' h
                        · subst h; unfold weak3; simp [Hab.out, Hba.out, Hbc.out]⟩
                      case measure => simp [intOf]; omega
                  · go_wp2_with fail
                    go_roundw
                    case rel => exact ⟨j + 1, hltj, by go_num, HK.out.1, fun j' hj' => by
                      rcases Nat.lt_succ_iff_lt_or_eq.1 hj' with h | h
                      · exact HJ.out.2 j' h
                      · subst h; exact ⟨by rw [Hab.out, Hba.out]; rfl, fun k' hk' => HK.out.2 k' (by omega)⟩⟩
                    case measure => simp [intOf]; omega
              · have Hba := Lib.hid hba; clear hba
                go_wp2_with fail
                refine (HC.out i j _ false Hab.out HJ.out.1).mono ?_
                rintro e u0 ⟨rfl, hi0⟩
                have Q0 := Lib.hid hi0
                have p0 := Q0.out.c0
                have p1 := Q0.out.c1
                clear hi0
                have HQ := Q0
                clear p0 p1 hc
                go_wp2_with fail
                go_loopw [39] (fun vk wr3 => ∃ k : Nat, k ≤ n ∧ vk = .int .i64 k ∧ Hid (BoxInv w sz A m c wr3 ∧ ∀ k', k' < k → weak3 r (f i) (f j) (f k') = true)) (fun vk _ => n - (intOf vk).toNat)
                case atStart => exact ⟨0, Nat.zero_le _, rfl, HQ.out, fun k' h => absurd h (Nat.not_lt_zero _)⟩
                case round =>
                  clear HQ
                  obtain ⟨k, hk, rfl, HK⟩ := hrel
                  by_cases hltk : k < n
                  · obtain ⟨b3, off3, hA3, hbB3, hc⟩ := (HR.out _ HK.out.1.bel).at hltk
                    simp only [Option.some.injEq, Addr.mk.injEq, and_true] at hA3
                    obtain ⟨rfl, rfl⟩ := hA3
                    have p0 := HK.out.1.c0
                    have p1 := HK.out.1.c1
                    go_wp2_with fail
                    refine (HC.out i j _ false Hab.out HK.out.1).mono ?_
                    rintro e v0 ⟨rfl, hi0⟩
                    have J0 := Lib.hid hi0
                    have p0 := J0.out.c0
                    have p1 := J0.out.c1
                    clear hi0
                    go_wp2_with fail
                    refine (HC.out i j _ false Hab.out J0.out).mono ?_
                    rintro e v1 ⟨rfl, hi1⟩
                    have J1 := Lib.hid hi1
                    have p0 := J1.out.c0
                    have p1 := J1.out.c1
                    clear hi1
                    go_wp2_with fail
                    refine (HC.out j i _ true Hba.out J1.out).mono ?_
                    rintro e v2 ⟨rfl, hi2⟩
                    have J2 := Lib.hid hi2
                    have p0 := J2.out.c0
                    have p1 := J2.out.c1
                    clear hi2
                    go_wp2_with fail
                    go_roundw
                    case rel => exact ⟨k + 1, hltk, by go_num, J2.out, fun k' hk' => by
                      rcases Nat.lt_succ_iff_lt_or_eq.1 hk' with h | h
                      · exact HK.out.2 k' h
                      · subst h; unfold weak3; simp [Hab.out, Hba.out]⟩
                    case measure => simp [intOf]; omega
                  · go_wp2_with fail
                    go_roundw
                    case rel => exact ⟨j + 1, hltj, by go_num, HK.out.1, fun j' hj' => by
                      rcases Nat.lt_succ_iff_lt_or_eq.1 hj' with h | h
                      · exact HJ.out.2 j' h
                      · subst h; exact ⟨by rw [Hab.out, Hba.out]; rfl, fun k' hk' => HK.out.2 k' (by omega)⟩⟩
                    case measure => simp [intOf]; omega
            · have Hab := Lib.hid hab; clear hab
              cases hba : r (f j) (f i)
              · have Hba := Lib.hid hba; clear hba
                go_wp2_with fail
                refine (HC.out i j _ true Hab.out HJ.out.1).mono ?_
                rintro e u0 ⟨rfl, hi0⟩
                have Q0 := Lib.hid hi0
                have p0 := Q0.out.c0
                have p1 := Q0.out.c1
                clear hi0
                go_wp2_with fail
                refine (HC.out j i _ false Hba.out Q0.out).mono ?_
                rintro e u1 ⟨rfl, hi1⟩
                have Q1 := Lib.hid hi1
                have p0 := Q1.out.c0
                have p1 := Q1.out.c1
                clear hi1
                have HQ := Q1
                clear p0 p1 hc
                go_wp2_with fail
                go_loopw [39] (fun vk wr3 => ∃ k : Nat, k ≤ n ∧ vk = .int .i64 k ∧ Hid (BoxInv w sz A m c wr3 ∧ ∀ k', k' < k → weak3 r (f i) (f j) (f k') = true)) (fun vk _ => n - (intOf vk).toNat)
                case atStart => exact ⟨0, Nat.zero_le _, rfl, HQ.out, fun k' h => absurd h (Nat.not_lt_zero _)⟩
                case round =>
                  clear HQ
                  obtain ⟨k, hk, rfl, HK⟩ := hrel
                  by_cases hltk : k < n
                  · obtain ⟨b3, off3, hA3, hbB3, hc⟩ := (HR.out _ HK.out.1.bel).at hltk
                    simp only [Option.some.injEq, Addr.mk.injEq, and_true] at hA3
                    obtain ⟨rfl, rfl⟩ := hA3
                    have p0 := HK.out.1.c0
                    have p1 := HK.out.1.c1
                    cases hbc : r (f j) (f k)
                    · have Hbc := Lib.hid hbc; clear hbc
                      go_wp2_with fail
                      refine (HC.out i j _ true Hab.out HK.out.1).mono ?_
                      rintro e v0 ⟨rfl, hi0⟩
                      have J0 := Lib.hid hi0
                      have p0 := J0.out.c0
                      have p1 := J0.out.c1
                      clear hi0
                      go_wp2_with fail
                      refine (HC.out j k _ false Hbc.out J0.out).mono ?_
                      rintro e v1 ⟨rfl, hi1⟩
                      have J1 := Lib.hid hi1
                      have p0 := J1.out.c0
                      have p1 := J1.out.c1
                      clear hi1
                      go_wp2_with fail
                      refine (HC.out i j _ true Hab.out J1.out).mono ?_
                      rintro e v2 ⟨rfl, hi2⟩
                      have J2 := Lib.hid hi2
                      have p0 := J2.out.c0
                      have p1 := J2.out.c1
                      clear hi2
                      go_wp2_with fail
                      go_roundw
                      case rel => exact ⟨k + 1, hltk, by go_num, J2.out, fun k' hk' => by
                        rcases Nat.lt_succ_iff_lt_or_eq.1 hk' with h | h
                        · exact HK.out.2 k' h
                        · subst h; unfold weak3; simp [Hab.out, Hba.out, Hbc.out]⟩
                      case measure => simp [intOf]; omega
                    · have Hbc := Lib.hid hbc; clear hbc
                      cases hac : r (f i) (f k)
                      · have Hac := Lib.hid hac; clear hac
                        go_wp2_with fail
                        refine (HC.out i j _ true Hab.out HK.out.1).mono ?_
                        rintro e v0 ⟨rfl, hi0⟩
                        have J0 := Lib.hid hi0
                        have p0 := J0.out.c0
                        have p1 := J0.out.c1
                        clear hi0
                        go_wp2_with fail
                        refine (HC.out j k _ true Hbc.out J0.out).mono ?_
                        rintro e v1 ⟨rfl, hi1⟩
                        have J1 := Lib.hid hi1
                        have p0 := J1.out.c0
                        have p1 := J1.out.c1
                        clear hi1
                        go_wp2_with fail
                        refine (HC.out i k _ false Hac.out J1.out).mono ?_
                        rintro e v2 ⟨rfl, hi2⟩
                        have J2 := Lib.hid hi2
                        have p0 := J2.out.c0
                        have p1 := J2.out.c1
                        clear hi2
                        go_wp2_with fail
                        go_ret
                        exact ⟨false, rfl, ⟨(fun h => by cases h), (fun h => by have := ((h i hlt).2 j hltj).2 k hltk; unfold weak3 at this; simp [Hab.out, Hba.out, Hbc.out, Hac.out] at this)⟩, J2.out.bel⟩
                      · have Hac := Lib.hid hac; clear hac
                        go_wp2_with fail
                        refine (HC.out i j _ true Hab.out HK.out.1).mono ?_
                        rintro e v0 ⟨rfl, hi0⟩
                        have J0 := Lib.hid hi0
                        have p0 := J0.out.c0
                        have p1 := J0.out.c1
                        clear hi0
                        go_wp2_with fail
                        refine (HC.out j k _ true Hbc.out J0.out).mono ?_
                        rintro e v1 ⟨rfl, hi1⟩
                        have J1 := Lib.hid hi1
                        have p0 := J1.out.c0
                        have p1 := J1.out.c1
                        clear hi1
                        go_wp2_with fail
                        refine (HC.out i k _ true Hac.out J1.out).mono ?_
                        rintro e v2 ⟨rfl, hi2⟩
                        have J2 := Lib.hid hi2
                        have p0 := J2.out.c0
                        have p1 := J2.out.c1
                        clear hi2
                        go_wp2_with fail
                        refine (HC.out i j _ true Hab.out J2.out).mono ?_
                        rintro e v3 ⟨rfl, hi3⟩
                        have J3 := Lib.hid hi3
                        have p0 := J3.out.c0
                        have p1 := J3.out.c1
                        clear hi3
                        go_wp2_with fail
                        go_roundw
                        case rel => exact ⟨k + 1, hltk, by go_num, J3.out, fun k' hk' => by
                          rcases Nat.lt_succ_iff_lt_or_eq.1 hk' with h | h
                          · exact HK.out.2 k' h
                          · subst h; unfold weak3; simp [Hab.out, Hba.out, Hbc.out, Hac.out]⟩
                        case measure => simp [intOf]; omega
                  · go_wp2_with fail
                    go_roundw
                    case rel => exact ⟨j + 1, hltj, by go_num, HK.out.1, fun j' hj' => by
                      rcases Nat.lt_succ_iff_lt_or_eq.1 hj' with h | h
                      · exact HJ.out.2 j' h
                      · subst h; exact ⟨by rw [Hab.out, Hba.out]; rfl, fun k' hk' => HK.out.2 k' (by omega)⟩⟩
                    case measure => simp [intOf]; omega
              · have Hba := Lib.hid hba; clear hba
                go_wp2_with fail
                refine (HC.out i j _ true Hab.out HJ.out.1).mono ?_
                rintro e u0 ⟨rfl, hi0⟩
                have Q0 := Lib.hid hi0
                have p0 := Q0.out.c0
                have p1 := Q0.out.c1
                clear hi0
                go_wp2_with fail
                refine (HC.out j i _ true Hba.out Q0.out).mono ?_
                rintro e u1 ⟨rfl, hi1⟩
                have Q1 := Lib.hid hi1
                have p0 := Q1.out.c0
                have p1 := Q1.out.c1
                clear hi1
                go_wp2_with fail
                go_ret
                exact ⟨false, rfl, ⟨(fun h => by cases h), (fun h => by have := ((h i hlt).2 j hltj).1; rw [Hab.out, Hba.out] at this; cases this)⟩, Q1.out.bel⟩
          · go_wp2_with fail
            go_roundw
            case rel => exact ⟨i + 1, hlt, by go_num, HJ.out.1, fun i' hi' => by
              rcases Nat.lt_succ_iff_lt_or_eq.1 hi' with h | h
              · exact HI.out.2 i' h
              · subst h; exact ⟨Haa.out, fun j' hj' => HJ.out.2 j' (by omega)⟩⟩
            case measure => simp [intOf]; omega
      · have Haa := Lib.hid haa; clear haa
        go_wp2_with fail
        refine (HC.out i i _ true Haa.out HI.out.1).mono ?_
        rintro e w1 ⟨rfl, hi1⟩
        have H1 := Lib.hid hi1
        clear hi1 p0 p1 hc
        go_wp2_with fail
        go_ret
        exact ⟨false, rfl, ⟨(fun h => by cases h), (fun h => by have := (h i hlt).1; rw [Haa.out] at this; cases this)⟩, H1.out.bel⟩
    · go_wp2_with fail
      go_ret
      exact ⟨true, rfl, ⟨fun _ => fun i' hi' => HI.out.2 i' (by omega), fun _ => rfl⟩, HI.out.1.bel⟩
end Go.Proofs.Ytjammaglboehcaa
