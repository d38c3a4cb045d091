/-
  The walks of the reference spec.StableByOrder, of sameInts, and of the law FnSortStableByOrder.
-/
import Derived.Test.YtkblfcdofgahhaaStN
import Derived.Test.YtkblfcdofgahhaaWeak
namespace Go.Proofs.Ytkblfcdofgahhaa
open Go.RowKit Go.Proofs
set_option linter.unusedVariables false

set_option maxHeartbeats 2000000 in
theorem specComes (sz a b : Int) (A : Option Addr) (m c B : Nat) (f : Nat → Bool) (w : World) (hsz : I64 sz) (ha : I64 a) (hb : I64 b) (hm : m ≤ 140737488351232) (hB : B ≤ w.heap.size) (hrd : Rd w B Value.bool A m f) :
    Calls Try.prog 46 #[.agg #[.int .i64 sz, .slice A m c], .int .i64 a, .int .i64 b] w (Gives (.bool (relB sz m f a b)) w) := by
  unfold I64 at hsz ha hb
  have hbel : ∀ o, Below w.heap.size w (w.alloc o) := fun o => (Below.refl _ _).alloc (Nat.le_refl _) o
  have HBel := Lib.hid hbel; clear hbel
  by_cases h0 : 0 ≤ a ∧ 0 ≤ b ∧ a < sz ∧ b < sz
  · obtain ⟨h1, h2, h3, h4⟩ := h0
    obtain ⟨k, rfl⟩ := Int.eq_ofNat_of_zero_le h1
    have HR := Lib.hid (fun o => hrd.alloc hB o); clear hrd hB
    go_enter Try.func46, Try.ntmps46
    have hn2 : ¬ (b < 0) := by omega
    have hn3 : ¬ ((k : Int) ≥ sz) := by omega
    have hn4 : ¬ (b ≥ sz) := by omega
    go_wp2_with fail
    go_loop [7, 8] (fun vx vj => ∃ (x : Int) (j : Nat), j ≤ k ∧ vx = .int .i64 x ∧ vj = .int .i64 j ∧ 0 ≤ x ∧ (x < m ∨ x = b) ∧ Hid (x = b + j * sz)) (fun _ vj => k - (intOf vj).toNat)
    case atStart => exact ⟨b, 0, Nat.zero_le _, rfl, rfl, h2, .inr rfl, Lib.hid (by simp)⟩
    case round =>
      obtain ⟨x, j, hj, rfl, rfl, hx0, hxm, HX⟩ := hrel
      have hw1 : IntKind.i64.wrap ((m : Int) - sz) = (m : Int) - sz := IntWalk.i64_in _ (by omega)
      by_cases hjk : j < k
      · by_cases hge : x ≥ (m : Int) - sz
        · have HF : Hid (relB sz m f k b = false) := Lib.hid (relB_false fun h => by
            have h5 := h.2.2.2.2
            have h6 := HX.out
            have h7 : ((j : Int) + 1) * sz ≤ (k : Int) * sz := Int.mul_le_mul_of_nonneg_right (by omega) (by omega)
            rw [Int.add_mul] at h7
            omega)
          go_wp2_with fail
          go_ret
          exact ⟨by rw [HF.out]; rfl, HBel.out _⟩
        · have hw2 : IntKind.i64.wrap (x + sz) = x + sz := IntWalk.i64_in _ (by omega)
          have HW := Lib.hid hw2
          go_wp2_with fail
          go_round
          case rel => exact ⟨x + sz, j + 1, hjk, rfl, by go_num, by omega, .inl (by omega), Lib.hid (by have h6 := HX.out; rw [Int.natCast_add, Int.add_mul]; simp only [Int.natCast_one, Int.one_mul]; omega)⟩
          case measure => simp [intOf]; omega
      · obtain rfl : j = k := by omega
        by_cases hat : x < (m : Int)
        · obtain ⟨y, rfl⟩ := Int.eq_ofNat_of_zero_le hx0
          obtain ⟨bb, off, rfl, _, hc⟩ := (HR.out (.cells #[.int .i64 sz, .slice A m c] 36)).at (i := y) (by omega)
          have HF : Hid (relB sz m f j b = f y) := Lib.hid (by
            rw [relB_true ⟨h1, h2, h3, h4, by have := HX.out; omega⟩]
            congr 1
            have := HX.out
            rw [Int.add_comm, ← this]; simp)
          go_wp2_with fail
          go_ret
          exact ⟨by rw [HF.out]; rfl, HBel.out _⟩
        · have HF : Hid (relB sz m f j b = false) := Lib.hid (relB_false fun h => by
            have h5 := h.2.2.2.2
            have h6 := HX.out
            omega)
          go_wp2_with fail
          go_ret
          exact ⟨by rw [HF.out]; rfl, HBel.out _⟩
  · rw [relB_false (fun h => h0 ⟨h.1, h.2.1, h.2.2.1, h.2.2.2.1⟩)]
    clear hrd hB
    go_enter Try.func46, Try.ntmps46
    go_wp2_with fail
    all_goals first | (exfalso; omega) | (go_ret; exact ⟨rfl, HBel.out _⟩)

theorem BoxInv.setCell {w w1 : World} {sz : Int} {A : Option Addr} {m c : Nat} (h : BoxInv w sz A m c w1) {p : Addr} (hp : w.heap.size < p.block) (v : Value) : BoxInv w sz A m c (w1.setCell p v) :=
  ⟨h.bel.setCell (Nat.le_of_lt hp) _, by simpa [World.setCell] using h.lt, by rw [World.cell?_setCell_other _ _ _ _ (fun q => by subst q; exact absurd hp (Nat.lt_irrefl _))]; exact h.c0, by rw [World.cell?_setCell_other _ _ _ _ (fun q => by subst q; exact absurd hp (Nat.lt_irrefl _))]; exact h.c1⟩

/-- What the reference has placed. -/
def Placed (rk : Nat → Nat) (e : Nat → Value) (i : Nat) (F : Nat → Value) : Prop := ∀ k, k < i → F (rk k) = e k
theorem Placed.step {n i : Nat} {rk : Nat → Nat} {e F : Nat → Value} (hinj : ∀ a b, a < n → b < n → rk a = rk b → a = b) (hi : i < n) (h : Placed rk e i F) : Placed rk e (i + 1) (fun k => if k = rk i then e i else F k) := fun k hk => by
  dsimp only
  by_cases c : k = i
  · subst c; rw [if_pos rfl]
  · rw [if_neg (fun q => c (hinj _ _ (by omega) hi q))]; exact h k (by omega)

/-- A list of the reference's: each element at its rank. -/
def OutR (w : World) (n : Nat) (f : Nat → Int) (rk : Nat → Nat) (e : Ending) (w' : World) : Prop :=
  ∃ (g : Nat) (F : Nat → Value), e = .returned (.slice (some ⟨g, 0, none⟩) n n) ∧ w.heap.size ≤ g ∧ w'.rowIs g 3 n F ∧ Placed rk (fun k => .int .i64 (f k)) n F ∧ Below w.heap.size w w'

set_option maxHeartbeats 4000000 in
theorem specStableByOrder (sz : Int) (A : Option Addr) (m c B : Nat) (gb : Nat → Bool) (A' : Option Addr) (n c' B' : Nat) (f : Nat → Int) (w : World) (hsz : I64 sz) (hm : m ≤ 140737488351232) (hB : B ≤ w.heap.size) (hrd : Rd w B Value.bool A m gb)
    (hf64 : ∀ i, I64 (f i)) (hn : n * 8 ≤ 140737488351232) (hB' : B' ≤ w.heap.size) (hrd' : Rd w B' (Value.int .i64) A' n f) (rk : Nat → Nat) (hrk : ∀ i, i < n → cnt (fun j => bfB (fun a b => relB sz m gb (f a) (f b)) j i) n = rk i) (hlt : ∀ i, i < n → rk i < n) (hinj : ∀ a b, a < n → b < n → rk a = rk b → a = b) :
    Calls Try.prog 27 #[.slice A' n c', .agg #[.int .i64 sz, .slice A m c]] w (OutR w n f rk) := by
  have hmk := run_make_row' (P := Try.prog) 30 3 (.int .i64 0) 8 Try.underlying30 infoIntS rfl .i64 .i64 n (by omega) (by omega)
  have HCm := Lib.hid (fun (w' : World) (hb : Below w.heap.size w w') (a b : Nat) => specComes sz (f a) (f b) A m c B gb w' hsz (hf64 a) (hf64 b) hm (Nat.le_trans hB hb.size) (hrd.keep hb hB))
  have HR := Lib.hid (fun (w' : World) (hb : Below w.heap.size w w') => hrd'.keep hb hB')
  have HK := Lib.hid (And.intro hrk (And.intro hlt hinj))
  have H0 := Lib.hid (BoxInv.first w sz A m c 36)
  have HM := Lib.hid (World.rowIs_made (w.alloc (.cells #[.int .i64 sz, .slice A m c] 36)) (.int .i64 0) n 3)
  clear hrd hrd' hrk hlt hinj hf64 hB hB' hsz hm
  generalize hr : relB sz m gb = r at *
  have HRr := Lib.hid hr; clear hr
  go_enter Try.func27, Try.ntmps27
  go_wp2_with fail
  go_loopw [16] (fun vi wr => ∃ (i : Nat) (F : Nat → Value), i ≤ n ∧ vi = .int .i64 i ∧ Hid (BoxInv w sz A m c wr ∧ w.heap.size + 1 < wr.heap.size ∧ wr.rowIs (w.heap.size + 1) 3 n F ∧ Placed rk (fun k => .int .i64 (f k)) i F)) (fun vi _ => n - (intOf vi).toNat)
  case atStart => exact ⟨0, _, Nat.zero_le _, rfl, H0.out.step ((Below.refl _ _).alloc (Nat.le_refl _) _), by simp, by simpa using HM.out, fun k hk => absurd hk (Nat.not_lt_zero _)⟩
  case round =>
    clear hmk HM
    obtain ⟨i, F, hi, rfl, HI⟩ := hrel
    obtain ⟨wo, rfl⟩ : ∃ wo : World, wo = wr := ⟨_, rfl⟩
    by_cases hlt : i < n
    · obtain ⟨b, off, rfl, _, hci⟩ := (HR.out wo HI.out.1.bel).at hlt
      have hf0 := Lib.hid (rfl : f i = f i)
      generalize hx : f i = x at hci
      have HX := Lib.hid hx; clear hx
      go_wp2_with fail
      go_loopw [23, 8] (fun vj vn w2 => ∃ (j : Nat), j ≤ n ∧ vj = .int .i64 j ∧ vn = .int .i64 (cnt (fun j => bfB (fun a b => r (f a) (f b)) j i) j) ∧ Hid (Below wo.heap.size wo w2)) (fun vj _ _ => n - (intOf vj).toNat)
      case atStart => exact ⟨0, Nat.zero_le _, rfl, rfl, Below.refl _ _⟩
      case round =>
        obtain ⟨j, hj, rfl, rfl, HJ⟩ := hrel
        have hcl := cnt_le (fun j => bfB (fun a b => r (f a) (f b)) j i) j
        have hb1 := HI.out.1.bel
        have H2 := Lib.hid (HI.out.1.step HJ.out)
        have c0 := H2.out.c0
        have c1 := H2.out.c1
        by_cases hjn : j < n
        · obtain ⟨b', off', h', _, hcj⟩ := (HR.out wr H2.out.bel).at hjn
          simp only [Option.some.injEq, Addr.mk.injEq, and_true] at h'
          obtain ⟨rfl, rfl⟩ := h'
          have hC1 := HCm.out wr H2.out.bel j i
          have hC2 := fun w3 (hb : Below wr.heap.size wr w3) => HCm.out w3 (H2.out.step hb).bel i j
          rw [HX.out] at hC1 hC2
          have hcs : cnt (fun j => bfB (fun a b => r (f a) (f b)) j i) (j + 1) = cnt (fun j => bfB (fun a b => r (f a) (f b)) j i) j + (if (r (f j) x || (!r x (f j) && decide (j < i))) = true then 1 else 0) := by
            show cnt _ j + (if (r (f j) (f i) || (!r (f i) (f j) && decide (j < i))) = true then 1 else 0) = _
            rw [HX.out]
          generalize hy : f j = y at hcj hC1 hC2 hcs
          have HCS := Lib.hid hcs; clear hcs hy
          generalize cnt (fun j => bfB (fun a b => r (f a) (f b)) j i) j = k0 at *
          cases h1 : r y x
          · rw [h1] at hC1
            have HC1 := Lib.hid hC1; clear hC1
            cases h2 : r x y
            · rw [h2] at hC2
              have HC2 := Lib.hid hC2; clear hC2
              by_cases h3 : j < i
              · have HE : Hid (_ = k0 + 1) := Lib.hid (HCS.out.trans (by rw [h1, h2, decide_eq_true h3]; rfl)); clear h1 h2 HCS hb1
                go_wp2_with fail
                refine HC1.out.mono ?_
                rintro e w3 ⟨rfl, hb3⟩
                have H3 := Lib.hid (H2.out.step hb3)
                have HB3 := Lib.hid hb3; clear hb3
                have d0 := H3.out.c0
                have d1 := H3.out.c1
                go_wp2_with fail
                refine (HC2.out w3 HB3.out).mono ?_
                rintro e w4 ⟨rfl, hb4⟩
                have HB4 := Lib.hid (HJ.out.trans ((HB3.out.trans (hb4.mono HB3.out.size)).mono HJ.out.size)); clear hb4
                go_wp2_with fail
                go_roundw
                case rel => exact ⟨j + 1, hjn, by go_num, by rw [HE.out]; go_num, HB4.out⟩
                case measure => simp [intOf]; omega
              · have HE : Hid (_ = k0) := Lib.hid (HCS.out.trans (by rw [h1, h2, decide_eq_false h3]; rfl)); clear h1 h2 HCS hb1
                go_wp2_with fail
                refine HC1.out.mono ?_
                rintro e w3 ⟨rfl, hb3⟩
                have H3 := Lib.hid (H2.out.step hb3)
                have HB3 := Lib.hid hb3; clear hb3
                have d0 := H3.out.c0
                have d1 := H3.out.c1
                go_wp2_with fail
                refine (HC2.out w3 HB3.out).mono ?_
                rintro e w4 ⟨rfl, hb4⟩
                have HB4 := Lib.hid (HJ.out.trans ((HB3.out.trans (hb4.mono HB3.out.size)).mono HJ.out.size)); clear hb4
                go_wp2_with fail
                go_roundw
                case rel => exact ⟨j + 1, hjn, by go_num, by rw [HE.out], HB4.out⟩
                case measure => simp [intOf]; omega
            · rw [h2] at hC2
              have HC2 := Lib.hid hC2; clear hC2
              have HE : Hid (_ = k0) := Lib.hid (HCS.out.trans (by rw [h1, h2]; rfl)); clear h1 h2 HCS hb1
              go_wp2_with fail
              refine HC1.out.mono ?_
              rintro e w3 ⟨rfl, hb3⟩
              have H3 := Lib.hid (H2.out.step hb3)
              have HB3 := Lib.hid hb3; clear hb3
              have d0 := H3.out.c0
              have d1 := H3.out.c1
              go_wp2_with fail
              refine (HC2.out w3 HB3.out).mono ?_
              rintro e w4 ⟨rfl, hb4⟩
              have HB4 := Lib.hid (HJ.out.trans ((HB3.out.trans (hb4.mono HB3.out.size)).mono HJ.out.size)); clear hb4
              go_wp2_with fail
              go_roundw
              case rel => exact ⟨j + 1, hjn, by go_num, by rw [HE.out], HB4.out⟩
              case measure => simp [intOf]; omega
          · rw [h1] at hC1
            have HC1 := Lib.hid hC1; clear hC1 hC2
            have HE : Hid (_ = k0 + 1) := Lib.hid (HCS.out.trans (by rw [h1]; rfl)); clear h1 HCS hb1
            go_wp2_with fail
            refine HC1.out.mono ?_
            rintro e w3 ⟨rfl, hb3⟩
            have HB4 := Lib.hid (HJ.out.trans (hb3.mono HJ.out.size)); clear hb3
            go_wp2_with fail
            go_roundw
            case rel => exact ⟨j + 1, hjn, by go_num, by rw [HE.out]; go_num, HB4.out⟩
            case measure => simp [intOf]; omega
        · obtain rfl : j = n := by omega
          have hk := HK.out.1 i hlt
          have hkl := HK.out.2.1 i hlt
          have hin := HK.out.2.2
          rw [hk]
          clear hk hcl hb1
          have r2 := rowIs_below HI.out.2.2.1 HJ.out HI.out.2.1
          have cc := r2.cell hkl
          have ff := r2.frozen (rk i)
          have R2 := Lib.hid r2; have HIn := Lib.hid hin; clear r2 hin
          generalize hq : rk i = q at *
          have HQ := Lib.hid hq; clear hq
          generalize hq2 : F q = fq at cc
          clear hq2
          go_wp2_with fail
          go_roundw
          case rel => exact ⟨i + 1, _, hlt, by go_num, H2.out.setCell (p := ⟨w.heap.size + 1, q, none⟩) (by simp) _, by have := Nat.lt_of_lt_of_le HI.out.2.1 HJ.out.size; simpa [World.setCell] using this, R2.out.set q _, by rw [← HQ.out, ← HX.out]; exact HI.out.2.2.2.step HIn.out hlt⟩
          case measure => simp [intOf]; omega
    · go_wp2_with fail
      go_ret
      obtain rfl : i = n := by omega
      exact ⟨w.heap.size + 1, F, rfl, by omega, HI.out.2.2.1, HI.out.2.2.2, HI.out.1.bel⟩
end Go.Proofs.Ytkblfcdofgahhaa
