/-
  The walk of the law FnSwapsByAnswers.
-/
import Derived.Test.YtkklbnheiganlaaGrB
import Derived.Test.YtkklbnheiganlaaPqV
import Derived.Test.YtkklbnheiganlaaStW3
import Derived.Deep.RegionHeld3
import Derived.Deep.RegionLaw
import Derived.Deep.AppendLies
namespace Go.Proofs.Ytkklbnheiganlaa
open Go.RowKit Go.Proofs
set_option linter.unusedVariables false

/-- The index of the first number that is equal to number i. -/
theorem rk_ex (f : Nat → Int) (i : Nat) : ∃ k, k ≤ i ∧ f k = f i ∧ ∀ j, j < k → f j ≠ f i := by
  induction i using Nat.strongRecOn with
  | ind i ih =>
    by_cases h : ∃ j, j < i ∧ f j = f i
    · obtain ⟨j, hj, he⟩ := h
      obtain ⟨k, h1, h2, h3⟩ := ih j hj
      exact ⟨k, by omega, h2.trans he, fun x hx => by rw [← he]; exact h3 x hx⟩
    · exact ⟨i, Nat.le_refl _, rfl, fun j hj he => h ⟨j, hj, he⟩⟩
noncomputable def rk (f : Nat → Int) (i : Nat) : Nat := Classical.choose (rk_ex f i)
theorem rk_le (f : Nat → Int) (i : Nat) : rk f i ≤ i := (Classical.choose_spec (rk_ex f i)).1
theorem rk_eq (f : Nat → Int) (i : Nat) : f (rk f i) = f i := (Classical.choose_spec (rk_ex f i)).2.1
theorem rk_ne (f : Nat → Int) {i j : Nat} (h : j < rk f i) : f j ≠ f i := (Classical.choose_spec (rk_ex f i)).2.2 j h

/-- The table of the answers. -/
def ansB (r : Int → Int → Bool) (f : Nat → Int) (n t : Nat) : Bool := r (f (t / n)) (f (t % n))
theorem ansB_at {r : Int → Int → Bool} {f : Nat → Int} {n a b : Nat} (hb : b < n) : ansB r f n (a * n + b) = r (f a) (f b) := by
  unfold ansB
  have h1 : (a * n + b) / n = a := by rw [Nat.mul_comm, Nat.mul_add_div (by omega), Nat.div_eq_of_lt hb, Nat.add_zero]
  have h2 : (a * n + b) % n = b := by rw [Nat.mul_comm, Nat.mul_add_mod, Nat.mod_eq_of_lt hb]
  rw [h1, h2]
theorem relB_ans {r : Int → Int → Bool} {f : Nat → Int} {n i j : Nat} (hi : i < n) (hj : j < n) : r (f i) (f j) = relB (n : Int) (n * n) (ansB r f n) ((rk f i : Nat) : Int) ((rk f j : Nat) : Int) := by
  have ha : rk f i < n := Nat.lt_of_le_of_lt (rk_le f i) hi
  have hb : rk f j < n := Nat.lt_of_le_of_lt (rk_le f j) hj
  rw [← rk_eq f i, ← rk_eq f j]
  generalize rk f i = a at *
  generalize rk f j = b at *
  have hlt : a * n + b < n * n := by
    have h1 : (a + 1) * n ≤ n * n := Nat.mul_le_mul_right _ (by omega)
    have h2 : (a + 1) * n = a * n + n := Nat.succ_mul _ _
    omega
  have e : ((a : Int) * (n : Int) + (b : Int)) = ((a * n + b : Nat) : Int) := by push_cast; rfl
  rw [relB_true (by rw [e]; omega), e, Int.toNat_natCast, ansB_at hb]

/-- The memory ahead of the sorts. -/
def SInv (w : World) (sz : Int) (A : Option Addr) (m c rb n : Nat) (Ar : Option Addr) (cr Br : Nat) (gb : Nat → Bool) (Ak : Option Addr) (Bk : Nat) (rkf : Nat → Int) (w' : World) : Prop :=
  BoxInv w sz A m c w' ∧ (rb < w'.heap.size ∧ w'.cell? ⟨rb, 0, none⟩ = some (.int .i64 (n : Int)) ∧ w'.cell? ⟨rb, 1, none⟩ = some (.slice Ar (n * n) cr)) ∧ (Br ≤ w'.heap.size ∧ Rd w' Br Value.bool Ar (n * n) gb) ∧ (Bk ≤ w'.heap.size ∧ Rd w' Bk (Value.int .i64) Ak n rkf)
section
variable {w : World} {sz : Int} {A : Option Addr} {m c rb n : Nat} {Ar : Option Addr} {cr Br : Nat} {gb : Nat → Bool} {Ak : Option Addr} {Bk : Nat} {rkf : Nat → Int} {w' w2 : World}
theorem SInv.step (h : SInv w sz A m c rb n Ar cr Br gb Ak Bk rkf w') (hb : Below w'.heap.size w' w2) : SInv w sz A m c rb n Ar cr Br gb Ak Bk rkf w2 :=
  ⟨h.1.step hb, ⟨Nat.lt_of_lt_of_le h.2.1.1 hb.size, (hb.cell (p := ⟨rb, 0, none⟩) h.2.1.1).trans h.2.1.2.1, (hb.cell (p := ⟨rb, 1, none⟩) h.2.1.1).trans h.2.1.2.2⟩, ⟨Nat.le_trans h.2.2.1.1 hb.size, h.2.2.1.2.keep hb h.2.2.1.1⟩, ⟨Nat.le_trans h.2.2.2.1 hb.size, h.2.2.2.2.keep hb h.2.2.2.1⟩⟩
theorem SInv.drewN (h : SInv w sz A m c rb n Ar cr Br gb Ak Bk rkf w') (q : Nat) : SInv w sz A m c rb n Ar cr Br gb Ak Bk rkf (w'.drewN q) := ⟨h.1.drewN q, h.2⟩
end

theorem posA (T : Nat → Nat → Bool) (n : Nat) : 0 < (pdqS (logA T) othR n (logA0 n)).2.length :=
  (way_pdqS (M := logA T) (n := n) othR_ok (logA0 n)).keep (K := fun s => 0 < s.2.length) ⟨fun s i j _ _ _ => by show 0 < (s.2 ++ [(2, i, j)]).length; simp, fun s i j _ _ _ => by show 0 < (s.2 ++ [(3, i, j)]).length; simp⟩ (show 0 < [(1, 0, 0)].length by simp)
theorem posM (T : Nat → Nat → Bool) (n : Nat) : 0 < (stable (logM T) n log0).2.length :=
  keep_stable (K := fun s => 0 < s.2.length) ⟨fun s i j _ _ _ => by show 0 < (s.2 ++ [(2, i, j)]).length; simp, fun s i j _ _ _ => by show 0 < (s.2 ++ [(3, i, j)]).length; simp⟩ log0 (show 0 < [(1, 0, 0)].length by simp)
theorem call_neq (x1 x2 x3 : Int) (w : World) : (binOp .neq 39 (.agg #[.int .i64 x1, .int .i64 x2, .int .i64 x3]) (.agg #[.int .i64 x1, .int .i64 x2, .int .i64 x3])).run Try.prog w = .ok (.bool false) w := by
  have hS : Try.prog.underlying 39 = some (.struct (Try.prog.fieldsOf 39)) := by kernel_rfl
  have hp : Try.prog.stoodInHeld 39 = false := by kernel_rfl
  have u3 := Try.underlying3
  have a3 := Try.isAgg3
  have z3 := Try.sizeOf3
  rw [run_neq_struct, show (10000 : Nat) = 9999 + 1 from rfl, run_equalIn_agg w 9999 39 _ _ hS hp]
  simp only [Program.fieldsOf, Try.underlying39]
  go_simp
/-- A log of calls of its own. -/
def NewC (w : World) (l : Log) (e : Ending) (w' : World) : Prop := ∃ A c, e = .returned (.slice A l.length c) ∧ RdC w' w'.heap.size A l.length (lgAt l) ∧ Below w.heap.size w w'
theorem OutL.newC {w w' : World} {l : Log} {e : Ending} (h : OutL w l e w') : NewC w l e w' := by
  obtain ⟨v, h1, h2, h3⟩ := h
  obtain ⟨A, c, rfl, hr⟩ := rdC_of_own h2
  exact ⟨A, c, h1, hr, h3⟩
def LOG1 (T : Nat → Nat → Bool) (n : Nat) : Log := (pdqS (logA T) othR n (logA0 n)).2
def LOG2 (T : Nat → Nat → Bool) (n : Nat) : Log := (stable (logM T) n log0).2
theorem infoBoolA : (Try.prog.info? 4).map (fun i => (i.zero, i.size, i.bytes)) = some (some (.bool false), 1, 1) := by kernel_rfl
theorem infoIntA : (Try.prog.info? 3).map (fun i => (i.zero, i.size, i.bytes)) = some (some (.int .i64 0), 1, 8) := by kernel_rfl

set_option maxRecDepth 100000 in
set_option maxHeartbeats 4000000 in
theorem fnSwapsByAnswersw (w : World) (A' : Option Addr) (n c' : Nat) (f : Nat → Int) (hf64 : ∀ i, I64 (f i)) (hl : n ≤ c') (hre : c' * 8 ≤ 140737488351232) (hrd' : Rd w w.heap.size (Value.int .i64) A' n f)
    (sz : Int) (A : Option Addr) (m c : Nat) (g : Nat → Bool) (hsz : I64 sz) (hlm : m ≤ c) (hrm : c ≤ 140737488351232) (hrd : Rd w w.heap.size Value.bool A m g) :
    Calls Try.prog 10 #[.slice A' n c', .agg #[.int .i64 sz, .slice A m c]] w fun e w' => e = .returned (.bool true) ∧ Below w.heap.size w w' := by
  have hm : m ≤ 140737488351232 := by omega
  have hn8 : n * 8 ≤ 140737488351232 := by omega
  have hnn : n ≤ 4611686018427387903 := by omega
  obtain ⟨i0, hi0, hz0, hz1, hz2⟩ := info_parts infoIntA
  obtain ⟨i1, hi1, hy0, hy1, hy2⟩ := info_parts infoBoolA
  have HX := Lib.hid (fun w' (hb : Below w.heap.size w w') => hrd'.keep hb (Nat.le_refl _))
  have HCo := Lib.hid (fun w' (hb : Below w.heap.size w w') i j => comes sz (f i) (f j) A m c w.heap.size g w' hsz (hf64 i) (hf64 j) hm hb.size (hrd.keep hb (Nat.le_refl _)))
  have HTo := Lib.hid (fun w' (hb : Below w.heap.size w w') => toOrder sz A m c w.heap.size g w' hm hb.size (hrd.keep hb (Nat.le_refl _)))
  have HP1 : Hid (∀ w' A1 c1 B1, n ≤ 1000 → B1 ≤ w'.heap.size → Rd w' B1 Value.bool A1 m g → Below w.heap.size w w' → Calls Try.prog 21 #[.slice A' n c', .agg #[.int .i64 sz, .slice A1 m c1]] w' (NewC w' (LOG1 (fun i j => relB sz m g (f i) (f j)) n))) := Lib.hid (fun w' A1 c1 B1 hk hB hr hb =>
    (implSortCalls sz A1 m c1 B1 g A' n c' w.heap.size f (fun i j => relB sz m g (f i) (f j)) w' hsz hm hB hr hf64 (by omega) (okA_small _ hk) hb.size (hrd'.keep hb (Nat.le_refl _)) (fun i j _ _ => rfl)).mono fun e w2 h => h.newC)
  have HQ1 : Hid (∀ w' Ar cr Br Ak ck Bk, n ≤ 1000 → Br ≤ w'.heap.size → Rd w' Br Value.bool Ar (n * n) (ansB (relB sz m g) f n) → Bk ≤ w'.heap.size → Rd w' Bk (Value.int .i64) Ak n (fun i => ((rk f i : Nat) : Int)) → Calls Try.prog 21 #[.slice Ak n ck, .agg #[.int .i64 (n : Int), .slice Ar (n * n) cr]] w' (NewC w' (LOG1 (fun i j => relB sz m g (f i) (f j)) n))) := Lib.hid (fun w' Ar cr Br Ak ck Bk hk hB hr hBk hrk =>
    (implSortCalls (n : Int) Ar (n * n) cr Br (ansB (relB sz m g) f n) Ak n ck Bk (fun i => ((rk f (min i (n - 1)) : Nat) : Int)) (fun i j => relB sz m g (f i) (f j)) w' (by unfold I64; omega) (by have := Nat.mul_le_mul hk hk; omega) hB hr (fun i => by unfold I64; have := rk_le f (min i (n - 1)); omega) (by omega) (okA_small _ hk) hBk (hrk.congr fun i hi => by rw [show min i (n - 1) = i by omega]) (fun i j hi hj => by rw [show min i (n - 1) = i by omega, show min j (n - 1) = j by omega]; exact relB_ans hi hj)).mono fun e w2 h => h.newC)
  have HP2 : Hid (∀ w' A1 c1 B1, n ≤ 1000 → B1 ≤ w'.heap.size → Rd w' B1 Value.bool A1 m g → Below w.heap.size w w' → Calls Try.prog 37 #[.slice A' n c', .agg #[.int .i64 sz, .slice A1 m c1]] w' (NewC w' (LOG2 (fun i j => relB sz m g (f i) (f j)) n))) := Lib.hid (fun w' A1 c1 B1 hk hB hr hb =>
    (implStableCalls sz A1 m c1 B1 g A' n c' w.heap.size f (fun i j => relB sz m g (f i) (f j)) w' hsz hm hB hr hf64 (by omega) hb.size (hrd'.keep hb (Nat.le_refl _)) (fun i j _ _ => rfl)).mono fun e w2 h => h.newC)
  have HQ2 : Hid (∀ w' Ar cr Br Ak ck Bk, n ≤ 1000 → Br ≤ w'.heap.size → Rd w' Br Value.bool Ar (n * n) (ansB (relB sz m g) f n) → Bk ≤ w'.heap.size → Rd w' Bk (Value.int .i64) Ak n (fun i => ((rk f i : Nat) : Int)) → Calls Try.prog 37 #[.slice Ak n ck, .agg #[.int .i64 (n : Int), .slice Ar (n * n) cr]] w' (NewC w' (LOG2 (fun i j => relB sz m g (f i) (f j)) n))) := Lib.hid (fun w' Ar cr Br Ak ck Bk hk hB hr hBk hrk =>
    (implStableCalls (n : Int) Ar (n * n) cr Br (ansB (relB sz m g) f n) Ak n ck Bk (fun i => ((rk f (min i (n - 1)) : Nat) : Int)) (fun i j => relB sz m g (f i) (f j)) w' (by unfold I64; omega) (by have := Nat.mul_le_mul hk hk; omega) hB hr (fun i => by unfold I64; have := rk_le f (min i (n - 1)); omega) (by omega) hBk (hrk.congr fun i hi => by rw [show min i (n - 1) = i by omega]) (fun i j hi hj => by rw [show min i (n - 1) = i by omega, show min j (n - 1) = j by omega]; exact relB_ans hi hj)).mono fun e w2 h => h.newC)
  have HLn : Hid (0 < (LOG1 (fun i j => relB sz m g (f i) (f j)) n).length ∧ 0 < (LOG2 (fun i j => relB sz m g (f i) (f j)) n).length ∧ (n ≤ 1000 → (LOG1 (fun i j => relB sz m g (f i) (f j)) n).length ≤ 5864062014805 ∧ (LOG2 (fun i j => relB sz m g (f i) (f j)) n).length ≤ 5864062014805)) := Lib.hid ⟨posA _ _, posM _ _, fun hk => ⟨okA_small _ hk, okL_stable _ n (by omega)⟩⟩
  generalize LOG1 (fun i j => relB sz m g (f i) (f j)) n = L1 at *
  generalize LOG2 (fun i j => relB sz m g (f i) (f j)) n = L2 at *
  have H0 := Lib.hid (BoxInv.first w sz A m c 33)
  clear hrd hrd' hre hl hlm hrm
  generalize relB sz m g = rr at *
  go_enter Try.func10, Try.ntmps10
  go_wp2_with fail
  generalize w.alloc (.cells #[.int .i64 sz, .slice A m c] 33) = V at *
  have HV := Lib.hid (fun w' (hb : Below V.heap.size V w') => H0.out.bel.trans (hb.mono H0.out.bel.size))
  go_loopg [5, 21] n (fun q v vi wr => ∃ k : Nat, k ≤ n ∧ n - k ≤ q ∧ vi = .int .i64 k ∧ Hid (GrowN V (fun i => ((rk f i : Nat) : Int)) v k wr))
  case atStart => exact ⟨0, Nat.zero_le _, by omega, rfl, GrowN.start V _⟩
  case round =>
    obtain ⟨k, hk, hq, rfl, HI⟩ := hrel
    by_cases hlt : k < n
    · have hlz : (k : Int) < (n : Int) := by omega
      obtain ⟨b, off, rfl, _, hc⟩ := (HX.out wr (HV.out wr HI.out.2)).at hlt
      have hbs := HI.out.2.size
      have hrk := rk_le f k
      have HRk := Lib.hid (And.intro (rk_eq f k) (fun j (h : j < rk f k) => rk_ne f h))
      generalize hy : f k = y at hc HRk
      have HY := Lib.hid hy; clear hy
      obtain ⟨wo, rfl⟩ : ∃ wo : World, wo = wr := ⟨_, rfl⟩
      go_wp2_with fail
      go_loopg [8] n (fun q v8 wr => ∃ j : Nat, j ≤ rk f k ∧ rk f k - j ≤ q ∧ v8 = .int .i64 j ∧ wo = wr)
      case atStart => exact ⟨0, Nat.zero_le _, by omega, rfl, rfl⟩
      case round =>
        obtain ⟨j, hj, hq2, rfl, rfl⟩ := hrel
        obtain ⟨b2, off2, hA2, _, hz⟩ := (HX.out wo (HV.out wo HI.out.2)).at (show j < n by omega)
        simp only [Option.some.injEq, Addr.mk.injEq, and_true] at hA2
        obtain ⟨rfl, rfl⟩ := hA2
        have hjn : (j : Int) < (n : Int) := by omega
        generalize hzz : f j = z at hz
        have HZ := Lib.hid hzz; clear hzz
        by_cases hzy : z = y
        · subst hzy
          have HJ : Hid (((rk f k : Nat) : Int) = (j : Int)) := Lib.hid (by
            rcases Nat.lt_or_ge j (rk f k) with h | h
            · exact absurd HZ.out (HRk.out.2 j h)
            · omega)
          go_wp2_with (at_builtin; refine wpList_append_own _ rfl _ _ 30 rfl V.heap.size 3 i0 (.int .i64 0) 1 8 Try.underlying30 hi0 hz0 hz1 hz2 rfl (by decide) _ _ _ rfl (HI.out.1.alloc _) ⟨wo.heap.size, 0, none⟩ 1 1 [.int .i64 (j : Int)] rfl rfl ?c1 ?c2 ?c3 ?c4 ?c5 ?_)
          case c1 => exact cell_one_new _ _ _ rfl
          case c2 => simp [Value.oneCell']
          case c3 => simp only [maxLen]; omega
          case c4 => omega
          case c5 => simp; omega
          intro v' W2 ho2 hg2 _
          obtain ⟨gv, cv, hv', _⟩ := ho2.form (by omega)
          rw [hv'] at ho2 ⊢
          clear hv'
          have HN := Lib.hid (HI.out.step ((Below.refl _ _).alloc (Nat.le_refl _) _) (by rw [HJ.out]; exact ho2) hg2)
          clear ho2 hg2
          go_wp2_with fail
          go_roundg (n - (k + 1))
          case measure => omega
          case rel => exact ⟨k + 1, hlt, Nat.le_refl _, by go_num, HN.out⟩
        · go_wp2_with fail
          go_roundg (rk f k - (j + 1))
          case measure =>
            have : j ≠ rk f k := fun h => hzy (by rw [← HZ.out, h, HRk.out.1])
            omega
          case rel => exact ⟨j + 1, (by
            have : j ≠ rk f k := fun h => hzy (by rw [← HZ.out, h, HRk.out.1])
            omega), Nat.le_refl _, by go_num, rfl⟩
    · have hlz : ¬ ((k : Int) < (n : Int)) := by omega
      obtain rfl : k = n := by omega
      obtain ⟨Ak, ck, rfl, hrk⟩ := HI.out.done
      by_cases h1000 : (k : Int) > 1000
      · have HB := Lib.hid (HV.out wr HI.out.2)
        go_wp2_with fail
        go_ret
        exact ⟨rfl, HB.out⟩
      have hk1 : k ≤ 1000 := by omega
      have hkk : k * k ≤ 1000 * 1000 := Nat.mul_le_mul hk1 hk1
      have hG0 : GrowB wr.heap.size (k : Int) (ansB rr f k) 0 (.slice none 0 0) (wr.alloc (.cells #[.int .i64 (k : Int), .slice none 0 0] 36)) :=
        ⟨by simp, by simp [go_sem], by simp [go_sem], by simp [go_sem], World.ownsRow_nil _ _ _ _⟩
      have HG : Hid (GrowB wr.heap.size (k : Int) (ansB rr f k) 0 (.slice none 0 0) (wr.alloc (.cells #[.int .i64 (k : Int), .slice none 0 0] 36)) ∧ Below wr.heap.size wr (wr.alloc (.cells #[.int .i64 (k : Int), .slice none 0 0] 36))) := Lib.hid ⟨hG0, (Below.refl _ _).alloc (Nat.le_refl _) _⟩
      have HSS := Lib.hid hkk
      have HR := Lib.hid (And.intro hrk (H0.out.step HI.out.2))
      clear hG0 hkk hrk HI
      obtain ⟨wo, rfl⟩ : ∃ wo : World, wo = wr := ⟨_, rfl⟩
      have HBw := Lib.hid (fun w' (hb : Below wo.heap.size wo w') => HR.out.2.step hb)
      go_wp2_with fail
      go_loopg [11] k (fun q va wr => ∃ (a : Nat) (v : Value), a ≤ k ∧ k - a ≤ q ∧ va = .int .i64 a ∧ Hid (GrowB wo.heap.size (k : Int) (ansB rr f k) (a * k) v wr ∧ Below wo.heap.size wo wr))
      case atStart => exact ⟨0, _, Nat.zero_le _, by omega, rfl, by rw [Nat.zero_mul]; exact HG.out.1, HG.out.2⟩
      case round =>
        clear HG
        obtain ⟨a, v, ha, hq, rfl, HI⟩ := hrel
        by_cases hlt : a < k
        · have hlz : (a : Int) < (k : Int) := by omega
          go_wp2_with fail
          go_loopg [12] k (fun q vb wr => ∃ (b : Nat) (v : Value), b ≤ k ∧ k - b ≤ q ∧ vb = .int .i64 b ∧ Hid (GrowB wo.heap.size (k : Int) (ansB rr f k) (a * k + b) v wr ∧ Below wo.heap.size wo wr))
          case atStart => exact ⟨0, v, Nat.zero_le _, by omega, rfl, HI.out⟩
          case round =>
            clear HI
            obtain ⟨b, v, hb, hq2, rfl, HK⟩ := hrel
            by_cases hbl : b < k
            · have hbz : (b : Int) < (k : Int) := by omega
              obtain ⟨y0, y1, y2, y3, y4⟩ := id HK.out.1
              have hkk : a * k + b + 1 ≤ 1000 * 1000 := by
                have h3 : (a + 1) * k ≤ k * k := Nat.mul_le_mul_right _ (by omega)
                have h4 : (a + 1) * k = a * k + k := Nat.succ_mul _ _
                have := HSS.out
                omega
              have hB0 := HBw.out wr HK.out.2
              obtain ⟨bx, off, rfl, hbx, hxa⟩ := (HX.out wr hB0.bel).at hlt
              obtain ⟨b2, off2, hA2, _, hxb⟩ := (HX.out wr hB0.bel).at hbl
              simp only [Option.some.injEq, Addr.mk.injEq, and_true] at hA2
              obtain ⟨rfl, rfl⟩ := hA2
              have hgx : rr (f a) (f b) = ansB rr f k (a * k + b) := (ansB_at hbl).symm
              have HC := Lib.hid (HCo.out (wr.drewN 1) (below_drewN hB0.bel 1) a b)
              have p0 := hB0.c0
              have p1 := hB0.c1
              have HLt := Lib.hid (And.intro (Nat.lt_of_lt_of_le hbx hB0.bel.size) (And.intro hB0.lt y0))
              have HKk := Lib.hid hkk
              have HO := Lib.hid y4
              clear hkk y4 hB0
              generalize hkx : a * k + b = kx at *
              have HKx := Lib.hid hkx; clear hkx
              generalize hgy : ansB rr f k kx = gx at hgx
              have HGx := Lib.hid hgy; clear hgy
              generalize f a = xa at *
              generalize f b = xb at *
              rw [hgx] at HC
              clear hgx
              have HWo := Lib.hid (And.intro hbx (HBw.out wo (Below.refl _ _)).bel.size)
              clear hbx
              go_wp2_with fail
              go_region_law (first
                  | (refine step_append_lies _ (by rfl) _ _ 31 (by rfl) (wo.heap.size + 1) 4 i1 (.bool false) 1 1 Try.underlying31 hi1 hy0 hy1 hy2 (by rfl) (by decide) v kx _ (by rfl) ((ownsRow_below HO.out HB6.out).alloc _) ⟨w5.heap.size, 0, none⟩ 1 1 [.bool gx] (by rfl) (by rfl) (cell_one_new _ _ _ rfl) (by simp [Value.oneCell']) (by decide) (by have := HKk.out; simp only [maxLen]; omega) (by have := HKk.out; omega) (by have h1 := HLt.out.2.2; have h2 := HB6.out.size; simp; omega) _ rfl ?_; intro gv cv W2 ho2 hg2 _ hlt2; have hW : Below wr.heap.size wr (w5.alloc (.cells #[.bool gx] 4)) := HB6.out.alloc HB6.out.size _; have hbW : Below (wo.heap.size + 1) wr W2 := (hW.mono (by have := HLt.out.2.2; omega)).grown hg2 (by have h1 := HLt.out.2.2; have := hW.size; omega) (fun k hk => (HO.out.lt k hk).1); obtain ⟨⟨z0, z1⟩, hA, hB⟩ := HK.out.1.step hW (by rw [HGx.out]; exact ho2) hg2; have r0 := (hbW.cell (p := ⟨w.heap.size, 0, none⟩) (Nat.lt_succ_of_le HWo.out.2)).trans p0; have r1 := (hbW.cell (p := ⟨w.heap.size, 1, none⟩) (Nat.lt_succ_of_le HWo.out.2)).trans p1; have r2 := (hbW.cell (p := ⟨bx, off + a, none⟩) (Nat.lt_succ_of_lt (Nat.lt_of_lt_of_le HWo.out.1 HWo.out.2))).trans hxa; have r3 := (hbW.cell (p := ⟨bx, off + b, none⟩) (Nat.lt_succ_of_lt (Nat.lt_of_lt_of_le HWo.out.1 HWo.out.2))).trans hxb; have HN := Lib.hid (And.intro hA (HK.out.2.trans hB)); clear ho2 hg2 hA hB hW hbW)
                  | (go_simp; refine HC.out.mono ?_; rintro e w5 ⟨rfl, hb5⟩; have hb6 : Below wr.heap.size wr w5 := (below_drewN (Below.refl wr.heap.size wr) 1).trans hb5; have q0 := (hb6.cell (p := ⟨w.heap.size, 0, none⟩) HLt.out.2.1).trans p0; have q1 := (hb6.cell (p := ⟨w.heap.size, 1, none⟩) HLt.out.2.1).trans p1; have q2 := (hb6.cell (p := ⟨bx, off + a, none⟩) HLt.out.1).trans hxa; have q3 := (hb6.cell (p := ⟨bx, off + b, none⟩) HLt.out.1).trans hxb; have q4 := (hb6.cell (p := ⟨wo.heap.size, 1, none⟩) HLt.out.2.2).trans y2; have HB6 := Lib.hid hb6; have s4 := fun o => (((Below.refl w5.heap.size w5).alloc (Nat.le_refl _) o).cell (p := ⟨wo.heap.size, 1, none⟩) (Nat.lt_of_lt_of_le HLt.out.2.2 HB6.out.size)).trans q4; clear hb5 hb6; dsimp only))
              all_goals
                go_wp2_with fail
                go_roundg (k - (b + 1))
                case measure => omega
                case rel => exact ⟨b + 1, _, hbl, Nat.le_refl _, by go_num, by rw [← Nat.add_assoc, HKx.out]; exact HN.out⟩
            · have hbz : ¬ ((b : Int) < (k : Int)) := by omega
              obtain rfl : b = k := by omega
              go_wp2_with fail
              go_roundg (b - (a + 1))
              case measure => omega
              case rel => exact ⟨a + 1, v, hlt, Nat.le_refl _, by go_num, by rw [Nat.succ_mul]; exact HK.out⟩
        · have hlz : ¬ ((a : Int) < (k : Int)) := by omega
          obtain rfl : a = k := by omega
          obtain ⟨y0, y1, y2, y3, y4⟩ := id HI.out.1
          obtain ⟨F, hF, hx⟩ := OwnRow.of_own y4
          obtain ⟨Ar, cr, rfl, hr1⟩ := hF.rd (enc := Value.bool) (f := ansB rr f a) (fun i hi => hx i _ (boolsL_get (by omega)))
          have HSI : Hid (SInv w sz A m c wo.heap.size a Ar cr wr.heap.size (ansB rr f a) Ak wo.heap.size (fun i => ((rk f i : Nat) : Int)) wr) := Lib.hid ⟨HBw.out wr HI.out.2, ⟨y0, y1, y2⟩, ⟨Nat.le_refl _, hr1⟩, ⟨HI.out.2.size, HR.out.1.keep HI.out.2 (Nat.le_refl _)⟩⟩
          clear y0 y1 y2 y3 y4 hF hx hr1 HI HBw HR
          generalize wo.heap.size = rb at *
          generalize wr.heap.size = Br at *
          have p0 := HSI.out.1.c0
          have p1 := HSI.out.1.c1
          have p2 := HSI.out.2.1.2.1
          have p3 := HSI.out.2.1.2.2
          go_wp2_with fail
          have HI : Hid (SInv w sz A m c rb a Ar cr Br (ansB rr f a) Ak rb (fun i => ((rk f i : Nat) : Int)) wr.drew) := Lib.hid (HSI.out.drewN 1)
          go_region_held3 (fun w' => w'.cell? ⟨w.heap.size, 0, none⟩ = some (.int .i64 sz) ∧ w'.cell? ⟨w.heap.size, 1, none⟩ = some (.slice A m c) ∧ w'.cell? ⟨rb, 0, none⟩ = some (.int .i64 (a : Int)) ∧ w'.cell? ⟨rb, 1, none⟩ = some (.slice Ar (a * a) cr))
            (go_keep)
            (first
              | (go_at_call 22; refine (HTo.out _ HI.out.1.bel).mono ?_; rintro e w5 ⟨A1, c1, rfl, hr5, hb5⟩; have HT5 := Lib.hid hr5; have HI := Lib.hid (HI.out.step hb5); have q0 := HI.out.1.c0; have q1 := HI.out.1.c1; have q2 := HI.out.2.1.2.1; have q3 := HI.out.2.1.2.2; clear hr5 hb5)
              | (go_at_call 21; refine (HP1.out _ A1 c1 _ hk1 (Nat.le_refl _) HT5.out HI.out.1.bel).mono ?_; rintro e w6 ⟨A6, c6, rfl, hr6, hb6⟩; have HL6 := Lib.hid hr6; have HB6 := Lib.hid hb6; have HI := Lib.hid (HI.out.step hb6); have q0 := HI.out.1.c0; have q1 := HI.out.1.c1; have q2 := HI.out.2.1.2.1; have q3 := HI.out.2.1.2.2; clear hr6 hb6)
              | (go_at_call 21; refine (HQ1.out _ Ar cr _ Ak ck _ hk1 HI.out.2.2.1.1 HI.out.2.2.1.2 HI.out.2.2.2.1 HI.out.2.2.2.2).mono ?_; rintro e w7 ⟨A7, c7, rfl, hr7, hb7⟩; have HLx := Lib.hid (And.intro (HL6.out.keep hb7 (Nat.le_refl _)) hr7); have HB7 := Lib.hid hb7; have HI := Lib.hid (HI.out.step hb7); have q0 := HI.out.1.c0; have q1 := HI.out.1.c1; have q2 := HI.out.2.1.2.1; have q3 := HI.out.2.1.2.2; clear hr7 hb7))
          go_wp2_with fail
          have HLa := Lib.hid (And.intro HLx.out.1 (And.intro HB7.out.size HLx.out.2))
          have HBB : Hid (Below w7.heap.size w7 w7.drew) := Lib.hid (below_drewN (Below.refl w7.heap.size w7) 1)
          have HSJ := Lib.hid HI.out
          clear HL6 HB6 HLx HB7 HT5 HI HSI q0 q1 q2 q3 p0 p1 p2 p3
          have p0 := HSJ.out.1.c0
          have p1 := HSJ.out.1.c1
          have p2 := HSJ.out.2.1.2.1
          have p3 := HSJ.out.2.1.2.2
          have HI : Hid (SInv w sz A m c rb a Ar cr Br (ansB rr f a) Ak rb (fun i => ((rk f i : Nat) : Int)) w7.drew) := Lib.hid (HSJ.out.drewN 1)
          go_region_held3 (fun w' => w'.cell? ⟨w.heap.size, 0, none⟩ = some (.int .i64 sz) ∧ w'.cell? ⟨w.heap.size, 1, none⟩ = some (.slice A m c) ∧ w'.cell? ⟨rb, 0, none⟩ = some (.int .i64 (a : Int)) ∧ w'.cell? ⟨rb, 1, none⟩ = some (.slice Ar (a * a) cr))
            (go_keep)
            (first
              | (go_at_call 22; refine (HTo.out _ HI.out.1.bel).mono ?_; rintro e w8 ⟨A8, c8, rfl, hr5, hb5⟩; have HT5 := Lib.hid hr5; have HI := Lib.hid (HI.out.step hb5); have HBB := Lib.hid (HBB.out.trans (hb5.mono HBB.out.size)); have q0 := HI.out.1.c0; have q1 := HI.out.1.c1; have q2 := HI.out.2.1.2.1; have q3 := HI.out.2.1.2.2; clear hr5 hb5)
              | (go_at_call 37; refine (HP2.out _ A8 c8 _ hk1 (Nat.le_refl _) HT5.out HI.out.1.bel).mono ?_; rintro e w9 ⟨A9, c9, rfl, hr6, hb6⟩; have HL9 := Lib.hid hr6; have HI := Lib.hid (HI.out.step hb6); have HBB := Lib.hid (HBB.out.trans (hb6.mono HBB.out.size)); have q0 := HI.out.1.c0; have q1 := HI.out.1.c1; have q2 := HI.out.2.1.2.1; have q3 := HI.out.2.1.2.2; clear hr6 hb6)
              | (go_at_call 37; refine (HQ2.out _ Ar cr _ Ak ck _ hk1 HI.out.2.2.1.1 HI.out.2.2.1.2 HI.out.2.2.2.1 HI.out.2.2.2.2).mono ?_; rintro e w10 ⟨A10, c10, rfl, hr7, hb7⟩; have HLx := Lib.hid (And.intro (HL9.out.keep hb7 (Nat.le_refl _)) hr7); have HI := Lib.hid (HI.out.step hb7); have HBB := Lib.hid (HBB.out.trans (hb7.mono HBB.out.size)); have q0 := HI.out.1.c0; have q1 := HI.out.1.c1; have q2 := HI.out.2.1.2.1; have q3 := HI.out.2.1.2.2; clear hr7 hb7))
          have HZ := Lib.hid HI.out.1.bel
          have HC1 := Lib.hid (And.intro (HLa.out.1.keep HBB.out HLa.out.2.1) (HLa.out.2.2.keep HBB.out (Nat.le_refl _)))
          have HC2 := Lib.hid HLx.out
          have hln := HLn.out
          obtain ⟨hN1, hN2, hN3⟩ := hln
          have hN4 := hN3 hk1
          clear HLn hN3 HP1 HP2 HQ1 HQ2 HTo HLx HL9 HLa HBB HSJ HI HT5 p0 p1 p2 p3 q0 q1 q2 q3 HSS HX HCo H0 HV
          generalize L1.length = N1 at *
          generalize L2.length = N2 at *
          generalize lgAt L1 = l1 at *
          generalize lgAt L2 = l2 at *
          obtain ⟨hN5, hN6⟩ := hN4
          have e1 : ((N1 : Int) != (N1 : Int)) = false := by simp
          have e2 : ((N2 : Int) != (N2 : Int)) = false := by simp
          have e3 : ((N1 : Int) == 0) = false := by simp; omega
          have e4 : ((N2 : Int) == 0) = false := by simp; omega
          go_wp2_with fail
          go_loopg [107] N1 (fun q vi wr => ∃ k q5 : Nat, k ≤ N1 ∧ N1 - k ≤ q ∧ vi = .int .i64 k ∧ wr = w10.drewN q5)
          case atStart => exact ⟨0, 0, Nat.zero_le _, by omega, rfl, rfl⟩
          case round =>
            obtain ⟨k, q5, hk, hqq, rfl, rfl⟩ := hrel
            by_cases hlt : k < N1
            · obtain ⟨b, off, rfl, _, h1, h2, h3⟩ := HC1.out.1.at hlt
              obtain ⟨b', off', rfl, _, h1', h2', h3'⟩ := HC1.out.2.at hlt
              have hkl : (k : Int) < (N1 : Int) := by omega
              generalize ((l1 k).1 : Int) = x1 at *
              generalize ((l1 k).2.1 : Int) = x2 at *
              generalize ((l1 k).2.2 : Int) = x3 at *
              have hqn := call_neq x1 x2 x3
              have hgn : Try.prog.eqGuardType Try.prog.depth 39 = false := by kernel_rfl
              go_wp2
              go_quiet (fail)
              go_wp2
              go_roundg (N1 - (k + 1))
              case measure => omega
              case rel => exact ⟨k + 1, _, hlt, Nat.le_refl _, by go_num, rfl⟩
            · have hkl : ¬ ((k : Int) < (N1 : Int)) := by omega
              go_wp2_with fail
              go_loopg [122] N2 (fun q vi wr => ∃ k q5 : Nat, k ≤ N2 ∧ N2 - k ≤ q ∧ vi = .int .i64 k ∧ wr = w10.drewN q5)
              case atStart => exact ⟨0, q5, Nat.zero_le _, by omega, rfl, rfl⟩
              case round =>
                obtain ⟨k, q5, hk, hqq, rfl, rfl⟩ := hrel
                by_cases hlt : k < N2
                · obtain ⟨b, off, rfl, _, h1, h2, h3⟩ := HC2.out.1.at hlt
                  obtain ⟨b', off', rfl, _, h1', h2', h3'⟩ := HC2.out.2.at hlt
                  have hkl : (k : Int) < (N2 : Int) := by omega
                  generalize ((l2 k).1 : Int) = x1 at *
                  generalize ((l2 k).2.1 : Int) = x2 at *
                  generalize ((l2 k).2.2 : Int) = x3 at *
                  have hqn := call_neq x1 x2 x3
                  have hgn : Try.prog.eqGuardType Try.prog.depth 39 = false := by kernel_rfl
                  go_wp2
                  go_quiet (fail)
                  go_wp2
                  go_roundg (N2 - (k + 1))
                  case measure => omega
                  case rel => exact ⟨k + 1, _, hlt, Nat.le_refl _, by go_num, rfl⟩
                · have hkl : ¬ ((k : Int) < (N2 : Int)) := by omega
                  go_wp2_with fail
                  go_ret
                  exact ⟨rfl, below_drewN HZ.out _⟩
end Go.Proofs.Ytkklbnheiganlaa
