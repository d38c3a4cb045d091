/-
  The walks of sort's partitionEqual and partition at an interface: each does what the plain program does.
-/
import Derived.Test.YtjammaglboehcaaStI
import Derived.Test.YtjammaglboehcaaZB
import Derived.Deep.LoopGhost
import Derived.Deep.CutRange
namespace Go.Proofs.Ytjammaglboehcaa
open Go.RowKit Go.Proofs
set_option linter.unusedVariables false

section
variable {σ : Type} {M : Mach σ} {n : Nat} {x y : Nat → Nat} {up : Bool} {f i j hi lo : Nat} {s : σ}
theorem scanU_stop (h : ¬ i < hi) : scanU M x y up hi f i s = (i, s) := by
  cases f with
  | zero => rfl
  | succ f => show (if i < hi then _ else _) = _; rw [if_neg h]
theorem scanU_go (h : i < hi) (hv : M.less s (x i) (y i) = up) : scanU M x y up hi (f + 1) i s = scanU M x y up hi f (i + 1) (M.tick s (x i) (y i)) := by
  show (if i < hi then _ else _) = _; rw [if_pos h, if_pos hv]
theorem scanU_end (h : i < hi) (hv : M.less s (x i) (y i) ≠ up) : scanU M x y up hi (f + 1) i s = (i, M.tick s (x i) (y i)) := by
  show (if i < hi then _ else _) = _; rw [if_pos h, if_neg hv]
theorem scanD_stop (h : ¬ lo ≤ j) : scanD M x y up lo j s = (j, s) := by
  cases j with
  | zero => rfl
  | succ j => show (if lo ≤ j + 1 then _ else _) = _; rw [if_neg h]
theorem scanD_go (h : lo ≤ j) (h1 : 1 ≤ j) (hv : M.less s (x j) (y j) = up) : scanD M x y up lo j s = scanD M x y up lo (j - 1) (M.tick s (x j) (y j)) := by
  obtain ⟨j, rfl⟩ : ∃ k, j = k + 1 := ⟨j - 1, by omega⟩
  show (if lo ≤ j + 1 then _ else _) = _; rw [if_pos h, if_pos hv]; rfl
theorem scanD_end (h : lo ≤ j) (h1 : 1 ≤ j) (hv : M.less s (x j) (y j) ≠ up) : scanD M x y up lo j s = (j, M.tick s (x j) (y j)) := by
  obtain ⟨j, rfl⟩ : ∃ k, j = k + 1 := ⟨j - 1, by omega⟩
  show (if lo ≤ j + 1 then _ else _) = _; rw [if_pos h, if_neg hv]
/-- behind the two scans of a round -/
theorem way_partL2 (a b : Nat) (e : Bool) (hb : b ≤ n) (f i j : Nat) (s : σ) (h1 : a + 1 ≤ i) (h2 : i ≤ j + 2) (h3 : i ≤ b) (h4 : a ≤ j) (h5 : j < b) :
    Way M n (2 * (j + 2) + 3) (parD M a e (parU M a e i j s).1 j (parU M a e i j s).2).2 (partL M a e (f + 1) i j s).2.2 := by
  rw [partL_eq]
  have w1 := way_parU (M := M) (n := n) a e i j s (by omega) (by omega)
  generalize parU M a e i j s = r1 at *
  have w2 := way_parD (M := M) (n := n) a e r1.1 j r1.2 (by omega) (by omega)
  generalize parD M a e r1.1 j r1.2 = r2 at *
  split
  · exact .nil _ _
  · have ih := way_partL (M := M) a b e hb f (r1.1 + 1) (r2.1 - 1) (M.swap r2.2 r1.1 r2.1) (by omega) (by omega) (by omega) (by omega) (by omega)
    exact ((Way.swap1 _ (by omega) (by omega)).trans ih.1).mono (by omega)
end

section
variable {σ : Type} {M : Mach σ} {ok : σ → Prop} {R : σ → World → Prop} {T : TypeId} {rv : Value} {gl gs n : Nat}

set_option maxRecDepth 100000 in
set_option maxHeartbeats 4000000 in
theorem partitionEqualI (H : IfaceS M ok R T rv gl gs n) (a b pivot : Nat) (hap : a ≤ pivot) (hpb : pivot < b) (hb : b ≤ n) (s : σ) (w : World) (hR : R s w) (hok : ok (partEq M a b pivot s).2) :
    Calls Try.prog 87 #[.iface T rv, .int .i64 a, .int .i64 b, .int .i64 pivot] w fun e w' => e = .returned (.int .i64 ((partEq M a b pivot s).1 : Nat)) ∧ R (partEq M a b pivot s).2 w' := by
  have hn := H.hn
  have mS := H.mS
  have eS := H.eS
  have mL := H.mL
  have eL := H.eL
  have HS := Lib.hid H.swap
  have HL := Lib.hid H.less
  have HG := Lib.hid H.guard
  have hC := HS.out s w a pivot (by omega) (by omega) hR ((way_partL (n := n) a b true hb (b - a) (a + 1) (b - 1) _ (Nat.le_refl _) (by omega) (by omega) (by omega) (by omega)).1.ok HG.out hok)
  have H0 := Lib.hid (And.intro hR hok)
  have HC0 := Lib.hid hC
  clear H hR hok hC
  show Calls _ _ _ _ fun e w' => e = .returned (.int .i64 ((partL M a true (b - a) (a + 1) (b - 1) (M.swap s a pivot)).1 : Nat)) ∧ R (partL M a true (b - a) (a + 1) (b - 1) (M.swap s a pivot)).2.2 w'
  have H0 : Hid (R s w ∧ ok (partL M a true (b - a) (a + 1) (b - 1) (M.swap s a pivot)).2.2) := H0
  generalize hTG : partL M a true (b - a) (a + 1) (b - 1) (M.swap s a pivot) = TGT at *
  have HTG := Lib.hid hTG; clear hTG
  go_enter Try.func87, Try.ntmps87
  go_wp2_with fail
  refine HC0.out.mono ?_
  rintro e w0 ⟨rfl, hR0⟩
  have HR0 := Lib.hid hR0; clear hR0
  go_wp2_with fail
  go_loopg [9, 10] (b - a) (fun g vi vj wr => ∃ (i j : Nat) (t : σ), vi = .int .i64 i ∧ vj = .int .i64 j ∧ a + 1 ≤ i ∧ i ≤ j + 2 ∧ i ≤ b ∧ a ≤ j ∧ j < b ∧ j + 2 - i + 1 ≤ 2 * g ∧ Hid (R t wr ∧ partL M a true g i j t = TGT))
  case atStart => exact ⟨a + 1, b - 1, _, by go_num, by go_num, Nat.le_refl _, by omega, by omega, by omega, by omega, by omega, HR0.out, HTG.out⟩
  case round =>
    clear HR0 HC0
    obtain ⟨ip, jp, tp, rfl, rfl, h1, h2, h3, h4, h5, hgk, HP0⟩ := hrel
    cases gk with
    | zero => omega
    | succ gq =>
      have HOt : Hid (ok (parD M a true (parU M a true ip jp tp).1 jp (parU M a true ip jp tp).2).2) := Lib.hid ((way_partL2 (n := n) a b true hb gq ip jp tp h1 h2 h3 h4 h5).ok HG.out (by rw [HP0.out.2]; exact H0.out.2))
      have HOu : Hid (ok (parU M a true ip jp tp).2) := Lib.hid ((way_parD (n := n) a true _ jp _ (by omega) (by omega)).1.ok HG.out HOt.out)
      go_wp2_with fail
      go_loopg [9] (jp + 1 - ip) (fun g vi wr => ∃ (i : Nat) (t : σ), vi = .int .i64 i ∧ ip ≤ i ∧ i ≤ b ∧ jp + 1 - i ≤ g ∧ Hid (R t wr ∧ scanU M (fun _ => a) (fun i => i) false (jp + 1) (jp + 1 - i) i t = parU M a true ip jp tp))
      case atStart => exact ⟨ip, tp, by go_num, Nat.le_refl _, by omega, Nat.le_refl _, HP0.out.1, rfl⟩
      case round =>
        obtain ⟨i2, t, rfl, hiu, hibu, hg, HI⟩ := hrel
        go_upto_region 3 with fail
        go_cut [28] from 19 to 30 (fun sp wu => ∃ (c : Bool) (u : σ), sp = .bool c ∧ (c = true → i2 ≤ jp) ∧ Hid (R u wu ∧ (c = true → scanU M (fun _ => a) (fun i => i) false (jp + 1) (jp + 1 - (i2 + 1)) (i2 + 1) u = parU M a true ip jp tp) ∧ (c = false → parU M a true ip jp tp = (i2, u))))
        case first =>
          by_cases hle : i2 ≤ jp
          · have hlz : (i2 : Int) ≤ (jp : Int) := by omega
            cases hv : M.less t a i2
            · skip
              have HF : Hid (scanU M (fun _ => a) (fun i => i) false (jp + 1) (jp + 1 - (i2 + 1)) (i2 + 1) (M.tick t a i2) = parU M a true ip jp tp) := Lib.hid (by
                have h1 := HI.out.2
                rw [show jp + 1 - i2 = (jp + 1 - (i2 + 1)) + 1 by omega, scanU_go (show i2 < jp + 1 by omega) hv] at h1
                exact h1)
              have hC := HL.out t wr a i2 (by omega) (by omega) HI.out.1 ((way_scanU (n := n) (fun _ => a) (fun i => i) false (jp + 1) (i2 + 1) (fun k _ hk => ⟨by omega, by omega⟩) _ (i2 + 1) _ (Nat.le_refl _)).1.ok HG.out (by rw [HF.out]; exact HOu.out))
              rw [hv] at hC
              have HC := Lib.hid hC; clear hC hv
              go_wp2_with fail
              refine HC.out.mono ?_
              rintro e w1 ⟨rfl, hR1⟩
              have HR1 := Lib.hid hR1; clear hR1
              go_wp2_with fail
              go_meet
              exact ⟨true, _, rfl, fun _ => hle, HR1.out, fun _ => HF.out, fun h => absurd h (by simp)⟩
            · skip
              have HF : Hid (parU M a true ip jp tp = (i2, M.tick t a i2)) := Lib.hid (by
                have h1 := HI.out.2
                rw [show jp + 1 - i2 = (jp + 1 - (i2 + 1)) + 1 by omega, scanU_end (show i2 < jp + 1 by omega) (by rw [hv]; simp)] at h1
                exact h1.symm)
              have hC := HL.out t wr a i2 (by omega) (by omega) HI.out.1 (by have h1 := HOu.out; rw [HF.out] at h1; exact h1)
              rw [hv] at hC
              have HC := Lib.hid hC; clear hC hv
              go_wp2_with fail
              refine HC.out.mono ?_
              rintro e w1 ⟨rfl, hR1⟩
              have HR1 := Lib.hid hR1; clear hR1
              go_wp2_with fail
              go_meet
              exact ⟨false, _, rfl, fun h => absurd h (by simp), HR1.out, fun h => absurd h (by simp), fun _ => HF.out⟩
          · have hlz : ¬ ((i2 : Int) ≤ (jp : Int)) := by omega
            have HF : Hid (parU M a true ip jp tp = (i2, t)) := Lib.hid (by rw [← HI.out.2]; exact scanU_stop (by omega))
            go_wp2_with fail
            go_meet
            exact ⟨false, t, rfl, fun h => absurd h (by simp), HI.out.1, fun h => absurd h (by simp), fun _ => HF.out⟩
        case rest =>
          clear HI
          obtain ⟨c, t1, rfl, hc, HU⟩ := hcut
          cases c
          · have HXu := Lib.hid (HU.out.2.2 rfl)
            have HRu := Lib.hid HU.out.1
            clear hc HU hg
            have HOd : Hid (ok (parD M a true i2 jp t1).2) := Lib.hid (by have h1 := HOt.out; rw [HXu.out] at h1; exact h1)
            go_wp2_with fail
            go_loopg [10] jp (fun g vj wr => ∃ (j : Nat) (t : σ), vj = .int .i64 j ∧ j ≤ jp ∧ (i2 ≤ j + 1 ∨ j = jp) ∧ j ≤ g ∧ Hid (R t wr ∧ scanD M (fun _ => a) (fun j => j) true i2 j t = parD M a true i2 jp t1))
            case atStart => exact ⟨jp, t1, by go_num, Nat.le_refl _, .inr rfl, Nat.le_refl _, HRu.out, rfl⟩
            case round =>
              obtain ⟨j2, t, rfl, hjd, hjbd, hg, HI⟩ := hrel
              go_upto_region 5 with fail
              go_cut [39] from 31 to 41 (fun sp wd => ∃ (c : Bool) (u : σ), sp = .bool c ∧ (c = true → i2 ≤ j2) ∧ Hid (R u wd ∧ (c = true → scanD M (fun _ => a) (fun j => j) true i2 (j2 - 1) u = parD M a true i2 jp t1) ∧ (c = false → parD M a true i2 jp t1 = (j2, u))))
              case first =>
                by_cases hle : i2 ≤ j2
                · have hlz : (i2 : Int) ≤ (j2 : Int) := by omega
                  cases hv : M.less t a j2
                  · skip
                    have HF : Hid (parD M a true i2 jp t1 = (j2, M.tick t a j2)) := Lib.hid (by
                      have h1 := HI.out.2
                      rw [scanD_end (show i2 ≤ j2 by omega) (by omega) (by rw [hv]; simp)] at h1
                      exact h1.symm)
                    have hC := HL.out t wr a j2 (by omega) (by omega) HI.out.1 (by have h1 := HOd.out; rw [HF.out] at h1; exact h1)
                    rw [hv] at hC
                    have HC := Lib.hid hC; clear hC hv
                    go_wp2_with fail
                    refine HC.out.mono ?_
                    rintro e w1 ⟨rfl, hR1⟩
                    have HR1 := Lib.hid hR1; clear hR1
                    go_wp2_with fail
                    go_meet
                    exact ⟨false, _, rfl, fun h => absurd h (by simp), HR1.out, fun h => absurd h (by simp), fun _ => HF.out⟩
                  · skip
                    have HF : Hid (scanD M (fun _ => a) (fun j => j) true i2 (j2 - 1) (M.tick t a j2) = parD M a true i2 jp t1) := Lib.hid (by
                      have h1 := HI.out.2
                      rw [scanD_go (show i2 ≤ j2 by omega) (by omega) hv] at h1
                      exact h1)
                    have hC := HL.out t wr a j2 (by omega) (by omega) HI.out.1 ((way_scanD (n := n) (fun _ => a) (fun j => j) true i2 j2 (fun k _ hk => ⟨by omega, by omega⟩) (j2 - 1) _ (by omega)).1.ok HG.out (by rw [HF.out]; exact HOd.out))
                    rw [hv] at hC
                    have HC := Lib.hid hC; clear hC hv
                    go_wp2_with fail
                    refine HC.out.mono ?_
                    rintro e w1 ⟨rfl, hR1⟩
                    have HR1 := Lib.hid hR1; clear hR1
                    go_wp2_with fail
                    go_meet
                    exact ⟨true, _, rfl, fun _ => hle, HR1.out, fun _ => HF.out, fun h => absurd h (by simp)⟩
                · have hlz : ¬ ((i2 : Int) ≤ (j2 : Int)) := by omega
                  have HF : Hid (parD M a true i2 jp t1 = (j2, t)) := Lib.hid (by rw [← HI.out.2]; exact scanD_stop (by omega))
                  go_wp2_with fail
                  go_meet
                  exact ⟨false, t, rfl, fun h => absurd h (by simp), HI.out.1, fun h => absurd h (by simp), fun _ => HF.out⟩
              case rest =>
                clear HI
                obtain ⟨c, t2, rfl, hc, HU⟩ := hcut
                cases c
                · have HXd := Lib.hid (HU.out.2.2 rfl)
                  have HRd := Lib.hid HU.out.1
                  clear hc HU hg
                  have HP : Hid (partL M a true (gq + 1) ip jp tp = if j2 < i2 then (i2, j2, t2) else partL M a true gq (i2 + 1) (j2 - 1) (M.swap t2 i2 j2)) := Lib.hid (by
                    rw [partL_eq, HXu.out]; dsimp only; rw [HXd.out])
                  by_cases hbr : j2 < i2
                  · have hbz : (i2 : Int) > (j2 : Int) := by omega
                    have HQ : Hid (TGT = (i2, j2, t2)) := Lib.hid (by rw [← HP0.out.2, HP.out, if_pos hbr])
                    clear HP
                    go_wp2_with fail
                    go_ret
                    exact ⟨by show _ = Ending.returned (.int .i64 ((TGT.1 : Nat) : Int)); rw [HQ.out]; rfl, by show R TGT.2.2 _; rw [HQ.out]; exact HRd.out⟩
                  · have hbz : ¬ ((i2 : Int) > (j2 : Int)) := by omega
                    have HQ : Hid (partL M a true gq (i2 + 1) (j2 - 1) (M.swap t2 i2 j2) = TGT) := Lib.hid (by rw [← HP0.out.2, HP.out, if_neg hbr])
                    have hC := HS.out t2 wc i2 j2 (by omega) (by omega) HRd.out ((way_partL (n := n) a b true hb gq (i2 + 1) (j2 - 1) _ (by omega) (by omega) (by omega) (by omega) (by omega)).1.ok HG.out (by rw [HQ.out]; exact H0.out.2))
                    have HC := Lib.hid hC; clear hC HP
                    go_wp2_with fail
                    refine HC.out.mono ?_
                    rintro e w3 ⟨rfl, hR3⟩
                    have HR3 := Lib.hid hR3; clear hR3
                    go_wp2_with fail
                    go_roundg gq
                    case measure => omega
                    case rel => exact ⟨i2 + 1, j2 - 1, _, by go_num, by go_num, by omega, by omega, by omega, by omega, by omega, by omega, HR3.out, HQ.out⟩
                · have hle := hc rfl
                  have HV := Lib.hid (And.intro HU.out.1 (HU.out.2.1 rfl))
                  clear hc HU
                  go_wp2_with fail
                  go_roundg (j2 - 1)
                  case measure => omega
                  case rel => exact ⟨j2 - 1, t2, by go_num, by omega, by omega, Nat.le_refl _, HV.out.1, HV.out.2⟩
          · have hle := hc rfl
            have HV := Lib.hid (And.intro HU.out.1 (HU.out.2.1 rfl))
            clear hc HU
            go_wp2_with fail
            go_roundg (jp + 1 - (i2 + 1))
            case measure => omega
            case rel => exact ⟨i2 + 1, t1, by go_num, by omega, by omega, Nat.le_refl _, HV.out.1, HV.out.2⟩

theorem way_partit2 {σ : Type} {M : Mach σ} {n : Nat} (a b pivot : Nat) (s : σ) (hap : a ≤ pivot) (hpb : pivot < b) (hb : b ≤ n) :
    Way M n (2 * (b + 1) + 4) (parD M a false (parU M a false (a + 1) (b - 1) (M.swap s a pivot)).1 (b - 1) (parU M a false (a + 1) (b - 1) (M.swap s a pivot)).2).2 (partit M a b pivot s).2.2 := by
  rw [partit_eq _ _ _ (by omega)]
  have w1 := way_parU (M := M) (n := n) a false (a + 1) (b - 1) (M.swap s a pivot) (by omega) (by omega)
  have w3 := way_partL2 (M := M) (n := n) a b false hb (b - a) (a + 1) (b - 1) (M.swap s a pivot) (Nat.le_refl _) (by omega) (by omega) (by omega) (by omega)
  have w4 := way_partL (M := M) (n := n) a b false hb (b - a + 1) (a + 1) (b - 1) (M.swap s a pivot) (Nat.le_refl _) (by omega) (by omega) (by omega) (by omega)
  generalize partL M a false (b - a + 1) (a + 1) (b - 1) (M.swap s a pivot) = r at *
  generalize parU M a false (a + 1) (b - 1) (M.swap s a pivot) = r1 at *
  have w2 := way_parD (M := M) (n := n) a false r1.1 (b - 1) r1.2 (by omega) (by omega)
  generalize parD M a false r1.1 (b - 1) r1.2 = r2 at *
  split
  · exact (Way.swap1 _ (by omega) (by omega)).mono (by omega)
  · exact (w3.trans (Way.swap1 _ (by omega) (by omega))).mono (by omega)

set_option maxRecDepth 100000 in
set_option maxHeartbeats 8000000 in
theorem partitionI (H : IfaceS M ok R T rv gl gs n) (a b pivot : Nat) (hap : a ≤ pivot) (hpb : pivot < b) (hb : b ≤ n) (s : σ) (w : World) (hR : R s w) (hok : ok (partit M a b pivot s).2.2) :
    Calls Try.prog 88 #[.iface T rv, .int .i64 a, .int .i64 b, .int .i64 pivot] w fun e w' => e = .returned (.tuple #[.int .i64 ((partit M a b pivot s).1 : Nat), .bool (partit M a b pivot s).2.1]) ∧ R (partit M a b pivot s).2.2 w' := by
  have hn := H.hn
  have mS := H.mS
  have eS := H.eS
  have mL := H.mL
  have eL := H.eL
  have HS := Lib.hid H.swap
  have HL := Lib.hid H.less
  have HG := Lib.hid H.guard
  obtain ⟨J, hJ⟩ : ∃ J, J = b - 1 := ⟨_, rfl⟩
  obtain ⟨S0, hS0⟩ : ∃ S0, S0 = M.swap s a pivot := ⟨_, rfl⟩
  have hpe := partit_eq (M := M) a b pivot (by omega) s
  have hw2 := (way_partit2 (M := M) (n := n) a b pivot s hap hpb hb).ok HG.out hok
  rw [← hJ, ← hS0] at hpe hw2
  have HOa2 := Lib.hid hw2
  have hw1 := (way_parD (M := M) (n := n) a false _ J _ (by omega) (by omega)).1.ok HG.out hw2
  have HOa := Lib.hid hw1
  have hC := HS.out s w a pivot (by omega) (by omega) hR (by rw [← hS0]; exact (way_parU (M := M) (n := n) a false (a + 1) J S0 (by omega) (by omega)).1.ok HG.out hw1)
  rw [← hS0] at hC
  have H0 := Lib.hid (And.intro hR hok)
  have HC0 := Lib.hid hC
  have HPe := Lib.hid hpe
  have hJ1 : J + 1 ≤ b ∧ b ≤ J + 1 := by omega
  clear H hR hok hC hpe hw1 hw2 hS0 hJ
  go_enter Try.func88, Try.ntmps88
  go_wp2_with fail
  refine HC0.out.mono ?_
  rintro e w0 ⟨rfl, hR0⟩
  have HR0 := Lib.hid hR0; clear hR0
  go_wp2_with fail
  rw [show (b : Int) - 1 = (J : Int) by omega]
  go_loopg [10] (J + 1 - (a + 1)) (fun g vi wr => ∃ (i : Nat) (t : σ), vi = .int .i64 i ∧ (a + 1) ≤ i ∧ i ≤ b ∧ J + 1 - i ≤ g ∧ Hid (R t wr ∧ scanU M (fun i => i) (fun _ => a) true (J + 1) (J + 1 - i) i t = parU M a false (a + 1) J S0))
  case atStart => exact ⟨(a + 1), S0, by go_num, Nat.le_refl _, by omega, Nat.le_refl _, HR0.out, rfl⟩
  case round =>
    obtain ⟨i1, t, rfl, hia, hiba, hg, HI⟩ := hrel
    go_upto_region 3 with fail
    go_cut [28] from 20 to 30 (fun sp wa => ∃ (c : Bool) (u : σ), sp = .bool c ∧ (c = true → i1 ≤ J) ∧ Hid (R u wa ∧ (c = true → scanU M (fun i => i) (fun _ => a) true (J + 1) (J + 1 - (i1 + 1)) (i1 + 1) u = parU M a false (a + 1) J S0) ∧ (c = false → parU M a false (a + 1) J S0 = (i1, u))))
    case first =>
      by_cases hle : i1 ≤ J
      · have hlz : (i1 : Int) ≤ (J : Int) := by omega
        cases hv : M.less t i1 a
        · skip
          have HF : Hid (parU M a false (a + 1) J S0 = (i1, M.tick t i1 a)) := Lib.hid (by
            have h1 := HI.out.2
            rw [show J + 1 - i1 = (J + 1 - (i1 + 1)) + 1 by omega, scanU_end (show i1 < J + 1 by omega) (by rw [hv]; simp)] at h1
            exact h1.symm)
          have hC := HL.out t wr i1 a (by omega) (by omega) HI.out.1 (by have h1 := HOa.out; rw [HF.out] at h1; exact h1)
          rw [hv] at hC
          have HC := Lib.hid hC; clear hC hv
          go_wp2_with fail
          refine HC.out.mono ?_
          rintro e w1 ⟨rfl, hR1⟩
          have HR1 := Lib.hid hR1; clear hR1
          go_wp2_with fail
          go_meet
          exact ⟨false, _, rfl, fun h => absurd h (by simp), HR1.out, fun h => absurd h (by simp), fun _ => HF.out⟩
        · skip
          have HF : Hid (scanU M (fun i => i) (fun _ => a) true (J + 1) (J + 1 - (i1 + 1)) (i1 + 1) (M.tick t i1 a) = parU M a false (a + 1) J S0) := Lib.hid (by
            have h1 := HI.out.2
            rw [show J + 1 - i1 = (J + 1 - (i1 + 1)) + 1 by omega, scanU_go (show i1 < J + 1 by omega) hv] at h1
            exact h1)
          have hC := HL.out t wr i1 a (by omega) (by omega) HI.out.1 ((way_scanU (n := n) (fun i => i) (fun _ => a) true (J + 1) (i1 + 1) (fun k _ hk => ⟨by omega, by omega⟩) _ (i1 + 1) _ (Nat.le_refl _)).1.ok HG.out (by rw [HF.out]; exact HOa.out))
          rw [hv] at hC
          have HC := Lib.hid hC; clear hC hv
          go_wp2_with fail
          refine HC.out.mono ?_
          rintro e w1 ⟨rfl, hR1⟩
          have HR1 := Lib.hid hR1; clear hR1
          go_wp2_with fail
          go_meet
          exact ⟨true, _, rfl, fun _ => hle, HR1.out, fun _ => HF.out, fun h => absurd h (by simp)⟩
      · have hlz : ¬ ((i1 : Int) ≤ (J : Int)) := by omega
        have HF : Hid (parU M a false (a + 1) J S0 = (i1, t)) := Lib.hid (by rw [← HI.out.2]; exact scanU_stop (by omega))
        go_wp2_with fail
        go_meet
        exact ⟨false, t, rfl, fun h => absurd h (by simp), HI.out.1, fun h => absurd h (by simp), fun _ => HF.out⟩
    case rest =>
      clear HI
      obtain ⟨c, u1, rfl, hc, HU⟩ := hcut
      cases c
      · have HXa := Lib.hid (HU.out.2.2 rfl)
        have HRa := Lib.hid HU.out.1
        clear hc HU hg
        have HOb : Hid (ok (parD M a false i1 J u1).2) := Lib.hid (by have h1 := HOa2.out; rw [HXa.out] at h1; exact h1)
        go_wp2_with fail
        go_loopg [11] J (fun g vj wr => ∃ (j : Nat) (t : σ), vj = .int .i64 j ∧ j ≤ J ∧ (i1 ≤ j + 1 ∨ j = J) ∧ j ≤ g ∧ Hid (R t wr ∧ scanD M (fun j => j) (fun _ => a) false i1 j t = parD M a false i1 J u1))
        case atStart => exact ⟨J, u1, by go_num, Nat.le_refl _, .inr rfl, Nat.le_refl _, HRa.out, rfl⟩
        case round =>
          obtain ⟨j1, t, rfl, hjb, hjbb, hg, HI⟩ := hrel
          go_upto_region 5 with fail
          go_cut [40] from 31 to 42 (fun sp wb => ∃ (c : Bool) (u : σ), sp = .bool c ∧ (c = true → i1 ≤ j1) ∧ Hid (R u wb ∧ (c = true → scanD M (fun j => j) (fun _ => a) false i1 (j1 - 1) u = parD M a false i1 J u1) ∧ (c = false → parD M a false i1 J u1 = (j1, u))))
          case first =>
            by_cases hle : i1 ≤ j1
            · have hlz : (i1 : Int) ≤ (j1 : Int) := by omega
              cases hv : M.less t j1 a
              · skip
                have HF : Hid (scanD M (fun j => j) (fun _ => a) false i1 (j1 - 1) (M.tick t j1 a) = parD M a false i1 J u1) := Lib.hid (by
                  have h1 := HI.out.2
                  rw [scanD_go (show i1 ≤ j1 by omega) (by omega) hv] at h1
                  exact h1)
                have hC := HL.out t wr j1 a (by omega) (by omega) HI.out.1 ((way_scanD (n := n) (fun j => j) (fun _ => a) false i1 j1 (fun k _ hk => ⟨by omega, by omega⟩) (j1 - 1) _ (by omega)).1.ok HG.out (by rw [HF.out]; exact HOb.out))
                rw [hv] at hC
                have HC := Lib.hid hC; clear hC hv
                go_wp2_with fail
                refine HC.out.mono ?_
                rintro e w1 ⟨rfl, hR1⟩
                have HR1 := Lib.hid hR1; clear hR1
                go_wp2_with fail
                go_meet
                exact ⟨true, _, rfl, fun _ => hle, HR1.out, fun _ => HF.out, fun h => absurd h (by simp)⟩
              · skip
                have HF : Hid (parD M a false i1 J u1 = (j1, M.tick t j1 a)) := Lib.hid (by
                  have h1 := HI.out.2
                  rw [scanD_end (show i1 ≤ j1 by omega) (by omega) (by rw [hv]; simp)] at h1
                  exact h1.symm)
                have hC := HL.out t wr j1 a (by omega) (by omega) HI.out.1 (by have h1 := HOb.out; rw [HF.out] at h1; exact h1)
                rw [hv] at hC
                have HC := Lib.hid hC; clear hC hv
                go_wp2_with fail
                refine HC.out.mono ?_
                rintro e w1 ⟨rfl, hR1⟩
                have HR1 := Lib.hid hR1; clear hR1
                go_wp2_with fail
                go_meet
                exact ⟨false, _, rfl, fun h => absurd h (by simp), HR1.out, fun h => absurd h (by simp), fun _ => HF.out⟩
            · have hlz : ¬ ((i1 : Int) ≤ (j1 : Int)) := by omega
              have HF : Hid (parD M a false i1 J u1 = (j1, t)) := Lib.hid (by rw [← HI.out.2]; exact scanD_stop (by omega))
              go_wp2_with fail
              go_meet
              exact ⟨false, t, rfl, fun h => absurd h (by simp), HI.out.1, fun h => absurd h (by simp), fun _ => HF.out⟩
          case rest =>
            clear HI
            obtain ⟨c, u2, rfl, hc, HU⟩ := hcut
            cases c
            · have HXb := Lib.hid (HU.out.2.2 rfl)
              have HRb := Lib.hid HU.out.1
              clear hc HU hg
              by_cases hbr : j1 < i1
              · have hbz : (i1 : Int) > (j1 : Int) := by omega
                have HFin : Hid (partit M a b pivot s = (j1, true, M.swap u2 j1 a)) := Lib.hid (by rw [HPe.out, HXa.out]; dsimp only; rw [HXb.out]; dsimp only; rw [if_pos hbr])
                have hC := HS.out u2 wc j1 a (by omega) (by omega) HRb.out (by have h1 := H0.out.2; rw [HFin.out] at h1; exact h1)
                have HC := Lib.hid hC; clear hC
                go_wp2_with fail
                refine HC.out.mono ?_
                rintro e w3 ⟨rfl, hR3⟩
                have HR3 := Lib.hid hR3; clear hR3
                go_wp2_with fail
                go_ret2
                exact ⟨by rw [HFin.out]; rfl, by rw [HFin.out]; exact HR3.out⟩
              · have hbz : ¬ ((i1 : Int) > (j1 : Int)) := by omega
                obtain ⟨TGT, hTG⟩ : ∃ x, x = partL M a false (b - a) (i1 + 1) (j1 - 1) (M.swap u2 i1 j1) := ⟨_, rfl⟩
                have HFin : Hid (partit M a b pivot s = (TGT.2.1, false, M.swap TGT.2.2 TGT.2.1 a)) := Lib.hid (by
                  rw [HPe.out, HXa.out]; dsimp only; rw [HXb.out]; dsimp only; rw [if_neg hbr, partL_eq, HXa.out]; dsimp only; rw [HXb.out]; dsimp only; rw [if_neg hbr, ← hTG])
                have hrg := (way_partL (M := M) (n := n) a b false hb (b - a) (i1 + 1) (j1 - 1) (M.swap u2 i1 j1) (by omega) (by omega) (by omega) (by omega) (by omega)).2
                rw [← hTG] at hrg
                have HKF : Hid (ok (M.swap TGT.2.2 TGT.2.1 a)) := Lib.hid (by have h1 := H0.out.2; rw [HFin.out] at h1; exact h1)
                have HKT : Hid (ok TGT.2.2) := Lib.hid (HG.out.swap _ _ _ HKF.out)
                have hC := HS.out u2 wc i1 j1 (by omega) (by omega) HRb.out ((way_partL (n := n) a b false hb (b - a) (i1 + 1) (j1 - 1) _ (by omega) (by omega) (by omega) (by omega) (by omega)).1.ok HG.out (by rw [← hTG]; exact HKT.out))
                have HC := Lib.hid hC; have HTG := Lib.hid hTG
                clear hC hTG hrg
                go_wp2_with fail
                refine HC.out.mono ?_
                rintro e w3 ⟨rfl, hR3⟩
                have HR3 := Lib.hid hR3; clear hR3
                go_wp2_with fail
                go_loopg [10, 11] (b - a) (fun g vi vj wr => ∃ (i j : Nat) (t : σ), vi = .int .i64 i ∧ vj = .int .i64 j ∧ a + 1 ≤ i ∧ i ≤ j + 2 ∧ i ≤ b ∧ a ≤ j ∧ j < b ∧ j + 2 - i + 1 ≤ 2 * g ∧ Hid (R t wr ∧ partL M a false g i j t = TGT))
                case atStart => exact ⟨i1 + 1, j1 - 1, _, by go_num, by go_num, by omega, by omega, by omega, by omega, by omega, by omega, HR3.out, HTG.out.symm⟩
                case round =>
                  clear HR3 HC HTG HXa HXb HRa HRb HOa HOb
                  obtain ⟨ip, jp, tp, rfl, rfl, h1, h2, h3, h4, h5, hgk, HP0⟩ := hrel
                  cases gk with
                  | zero => omega
                  | succ gq =>
                    have HOt : Hid (ok (parD M a false (parU M a false ip jp tp).1 jp (parU M a false ip jp tp).2).2) := Lib.hid ((way_partL2 (n := n) a b false hb gq ip jp tp h1 h2 h3 h4 h5).ok HG.out (by rw [HP0.out.2]; exact HKT.out))
                    have HOu : Hid (ok (parU M a false ip jp tp).2) := Lib.hid ((way_parD (n := n) a false _ jp _ (by omega) (by omega)).1.ok HG.out HOt.out)
                    go_wp2_with fail
                    go_loopg [10] (jp + 1 - ip) (fun g vi wr => ∃ (i : Nat) (t : σ), vi = .int .i64 i ∧ ip ≤ i ∧ i ≤ b ∧ jp + 1 - i ≤ g ∧ Hid (R t wr ∧ scanU M (fun i => i) (fun _ => a) true (jp + 1) (jp + 1 - i) i t = parU M a false ip jp tp))
                    case atStart => exact ⟨ip, tp, by go_num, Nat.le_refl _, by omega, Nat.le_refl _, HP0.out.1, rfl⟩
                    case round =>
                      obtain ⟨i2, t, rfl, hiu, hibu, hg, HI⟩ := hrel
                      go_upto_region 13 with fail
                      go_cut [67] from 59 to 69 (fun sp wu => ∃ (c : Bool) (u : σ), sp = .bool c ∧ (c = true → i2 ≤ jp) ∧ Hid (R u wu ∧ (c = true → scanU M (fun i => i) (fun _ => a) true (jp + 1) (jp + 1 - (i2 + 1)) (i2 + 1) u = parU M a false ip jp tp) ∧ (c = false → parU M a false ip jp tp = (i2, u))))
                      case first =>
                        by_cases hle : i2 ≤ jp
                        · have hlz : (i2 : Int) ≤ (jp : Int) := by omega
                          cases hv : M.less t i2 a
                          · skip
                            have HF : Hid (parU M a false ip jp tp = (i2, M.tick t i2 a)) := Lib.hid (by
                              have h1 := HI.out.2
                              rw [show jp + 1 - i2 = (jp + 1 - (i2 + 1)) + 1 by omega, scanU_end (show i2 < jp + 1 by omega) (by rw [hv]; simp)] at h1
                              exact h1.symm)
                            have hC := HL.out t wr i2 a (by omega) (by omega) HI.out.1 (by have h1 := HOu.out; rw [HF.out] at h1; exact h1)
                            rw [hv] at hC
                            have HC := Lib.hid hC; clear hC hv
                            go_wp2_with fail
                            refine HC.out.mono ?_
                            rintro e w1 ⟨rfl, hR1⟩
                            have HR1 := Lib.hid hR1; clear hR1
                            go_wp2_with fail
                            go_meet
                            exact ⟨false, _, rfl, fun h => absurd h (by simp), HR1.out, fun h => absurd h (by simp), fun _ => HF.out⟩
                          · skip
                            have HF : Hid (scanU M (fun i => i) (fun _ => a) true (jp + 1) (jp + 1 - (i2 + 1)) (i2 + 1) (M.tick t i2 a) = parU M a false ip jp tp) := Lib.hid (by
                              have h1 := HI.out.2
                              rw [show jp + 1 - i2 = (jp + 1 - (i2 + 1)) + 1 by omega, scanU_go (show i2 < jp + 1 by omega) hv] at h1
                              exact h1)
                            have hC := HL.out t wr i2 a (by omega) (by omega) HI.out.1 ((way_scanU (n := n) (fun i => i) (fun _ => a) true (jp + 1) (i2 + 1) (fun k _ hk => ⟨by omega, by omega⟩) _ (i2 + 1) _ (Nat.le_refl _)).1.ok HG.out (by rw [HF.out]; exact HOu.out))
                            rw [hv] at hC
                            have HC := Lib.hid hC; clear hC hv
                            go_wp2_with fail
                            refine HC.out.mono ?_
                            rintro e w1 ⟨rfl, hR1⟩
                            have HR1 := Lib.hid hR1; clear hR1
                            go_wp2_with fail
                            go_meet
                            exact ⟨true, _, rfl, fun _ => hle, HR1.out, fun _ => HF.out, fun h => absurd h (by simp)⟩
                        · have hlz : ¬ ((i2 : Int) ≤ (jp : Int)) := by omega
                          have HF : Hid (parU M a false ip jp tp = (i2, t)) := Lib.hid (by rw [← HI.out.2]; exact scanU_stop (by omega))
                          go_wp2_with fail
                          go_meet
                          exact ⟨false, t, rfl, fun h => absurd h (by simp), HI.out.1, fun h => absurd h (by simp), fun _ => HF.out⟩
                      case rest =>
                        clear HI
                        obtain ⟨c, t1, rfl, hc, HU⟩ := hcut
                        cases c
                        · have HXu := Lib.hid (HU.out.2.2 rfl)
                          have HRu := Lib.hid HU.out.1
                          clear hc HU hg
                          have HOd : Hid (ok (parD M a false i2 jp t1).2) := Lib.hid (by have h1 := HOt.out; rw [HXu.out] at h1; exact h1)
                          go_wp2_with fail
                          go_loopg [11] jp (fun g vj wr => ∃ (j : Nat) (t : σ), vj = .int .i64 j ∧ j ≤ jp ∧ (i2 ≤ j + 1 ∨ j = jp) ∧ j ≤ g ∧ Hid (R t wr ∧ scanD M (fun j => j) (fun _ => a) false i2 j t = parD M a false i2 jp t1))
                          case atStart => exact ⟨jp, t1, by go_num, Nat.le_refl _, .inr rfl, Nat.le_refl _, HRu.out, rfl⟩
                          case round =>
                            obtain ⟨j2, t, rfl, hjd, hjbd, hg, HI⟩ := hrel
                            go_upto_region 15 with fail
                            go_cut [79] from 70 to 81 (fun sp wd => ∃ (c : Bool) (u : σ), sp = .bool c ∧ (c = true → i2 ≤ j2) ∧ Hid (R u wd ∧ (c = true → scanD M (fun j => j) (fun _ => a) false i2 (j2 - 1) u = parD M a false i2 jp t1) ∧ (c = false → parD M a false i2 jp t1 = (j2, u))))
                            case first =>
                              by_cases hle : i2 ≤ j2
                              · have hlz : (i2 : Int) ≤ (j2 : Int) := by omega
                                cases hv : M.less t j2 a
                                · skip
                                  have HF : Hid (scanD M (fun j => j) (fun _ => a) false i2 (j2 - 1) (M.tick t j2 a) = parD M a false i2 jp t1) := Lib.hid (by
                                    have h1 := HI.out.2
                                    rw [scanD_go (show i2 ≤ j2 by omega) (by omega) hv] at h1
                                    exact h1)
                                  have hC := HL.out t wr j2 a (by omega) (by omega) HI.out.1 ((way_scanD (n := n) (fun j => j) (fun _ => a) false i2 j2 (fun k _ hk => ⟨by omega, by omega⟩) (j2 - 1) _ (by omega)).1.ok HG.out (by rw [HF.out]; exact HOd.out))
                                  rw [hv] at hC
                                  have HC := Lib.hid hC; clear hC hv
                                  go_wp2_with fail
                                  refine HC.out.mono ?_
                                  rintro e w1 ⟨rfl, hR1⟩
                                  have HR1 := Lib.hid hR1; clear hR1
                                  go_wp2_with fail
                                  go_meet
                                  exact ⟨true, _, rfl, fun _ => hle, HR1.out, fun _ => HF.out, fun h => absurd h (by simp)⟩
                                · skip
                                  have HF : Hid (parD M a false i2 jp t1 = (j2, M.tick t j2 a)) := Lib.hid (by
                                    have h1 := HI.out.2
                                    rw [scanD_end (show i2 ≤ j2 by omega) (by omega) (by rw [hv]; simp)] at h1
                                    exact h1.symm)
                                  have hC := HL.out t wr j2 a (by omega) (by omega) HI.out.1 (by have h1 := HOd.out; rw [HF.out] at h1; exact h1)
                                  rw [hv] at hC
                                  have HC := Lib.hid hC; clear hC hv
                                  go_wp2_with fail
                                  refine HC.out.mono ?_
                                  rintro e w1 ⟨rfl, hR1⟩
                                  have HR1 := Lib.hid hR1; clear hR1
                                  go_wp2_with fail
                                  go_meet
                                  exact ⟨false, _, rfl, fun h => absurd h (by simp), HR1.out, fun h => absurd h (by simp), fun _ => HF.out⟩
                              · have hlz : ¬ ((i2 : Int) ≤ (j2 : Int)) := by omega
                                have HF : Hid (parD M a false i2 jp t1 = (j2, t)) := Lib.hid (by rw [← HI.out.2]; exact scanD_stop (by omega))
                                go_wp2_with fail
                                go_meet
                                exact ⟨false, t, rfl, fun h => absurd h (by simp), HI.out.1, fun h => absurd h (by simp), fun _ => HF.out⟩
                            case rest =>
                              clear HI
                              obtain ⟨c, t2, rfl, hc, HU⟩ := hcut
                              cases c
                              · have HXd := Lib.hid (HU.out.2.2 rfl)
                                have HRd := Lib.hid HU.out.1
                                clear hc HU hg
                                have HP : Hid (partL M a false (gq + 1) ip jp tp = if j2 < i2 then (i2, j2, t2) else partL M a false gq (i2 + 1) (j2 - 1) (M.swap t2 i2 j2)) := Lib.hid (by
                                  rw [partL_eq, HXu.out]; dsimp only; rw [HXd.out])
                                by_cases hbr : j2 < i2
                                · have hbz : (i2 : Int) > (j2 : Int) := by omega
                                  have HQ : Hid (TGT = (i2, j2, t2)) := Lib.hid (by rw [← HP0.out.2, HP.out, if_pos hbr])
                                  clear HP
                                  have hC := HS.out t2 wc j2 a (by omega) (by omega) HRd.out (by have h1 := HKF.out; rw [HQ.out] at h1; exact h1)
                                  have HC := Lib.hid hC; clear hC
                                  go_wp2_with fail
                                  refine HC.out.mono ?_
                                  rintro e w3 ⟨rfl, hR3⟩
                                  have HR3 := Lib.hid hR3; clear hR3
                                  go_wp2_with fail
                                  go_ret2
                                  exact ⟨by rw [HFin.out, HQ.out]; rfl, by rw [HFin.out, HQ.out]; exact HR3.out⟩
                                · have hbz : ¬ ((i2 : Int) > (j2 : Int)) := by omega
                                  have HQ : Hid (partL M a false gq (i2 + 1) (j2 - 1) (M.swap t2 i2 j2) = TGT) := Lib.hid (by rw [← HP0.out.2, HP.out, if_neg hbr])
                                  have hC := HS.out t2 wc i2 j2 (by omega) (by omega) HRd.out ((way_partL (n := n) a b false hb gq (i2 + 1) (j2 - 1) _ (by omega) (by omega) (by omega) (by omega) (by omega)).1.ok HG.out (by rw [HQ.out]; exact HKT.out))
                                  have HC := Lib.hid hC; clear hC HP
                                  go_wp2_with fail
                                  refine HC.out.mono ?_
                                  rintro e w3 ⟨rfl, hR3⟩
                                  have HR3 := Lib.hid hR3; clear hR3
                                  go_wp2_with fail
                                  go_roundg gq
                                  case measure => omega
                                  case rel => exact ⟨i2 + 1, j2 - 1, _, by go_num, by go_num, by omega, by omega, by omega, by omega, by omega, by omega, HR3.out, HQ.out⟩
                              · have hle := hc rfl
                                have HV := Lib.hid (And.intro HU.out.1 (HU.out.2.1 rfl))
                                clear hc HU
                                go_wp2_with fail
                                go_roundg (j2 - 1)
                                case measure => omega
                                case rel => exact ⟨j2 - 1, t2, by go_num, by omega, by omega, Nat.le_refl _, HV.out.1, HV.out.2⟩
                        · have hle := hc rfl
                          have HV := Lib.hid (And.intro HU.out.1 (HU.out.2.1 rfl))
                          clear hc HU
                          go_wp2_with fail
                          go_roundg (jp + 1 - (i2 + 1))
                          case measure => omega
                          case rel => exact ⟨i2 + 1, t1, by go_num, by omega, by omega, Nat.le_refl _, HV.out.1, HV.out.2⟩
            · have hle := hc rfl
              have HV := Lib.hid (And.intro HU.out.1 (HU.out.2.1 rfl))
              clear hc HU
              go_wp2_with fail
              go_roundg (j1 - 1)
              case measure => omega
              case rel => exact ⟨j1 - 1, u2, by go_num, by omega, by omega, Nat.le_refl _, HV.out.1, HV.out.2⟩
      · have hle := hc rfl
        have HV := Lib.hid (And.intro HU.out.1 (HU.out.2.1 rfl))
        clear hc HU
        go_wp2_with fail
        go_roundg (J + 1 - (i1 + 1))
        case measure => omega
        case rel => exact ⟨i1 + 1, u1, by go_num, by omega, by omega, Nat.le_refl _, HV.out.1, HV.out.2⟩
end
end Go.Proofs.Ytjammaglboehcaa
