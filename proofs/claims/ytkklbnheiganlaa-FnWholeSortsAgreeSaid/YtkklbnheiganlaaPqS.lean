/-
  The walks of strictly and toParts; by a strict order of numbers of which no two are equal in it there is one list in order.
-/
import Derived.Test.YtkklbnheiganlaaStG
import Derived.Test.YtkklbnheiganlaaWeak
import Derived.Test.YtkklbnheiganlaaInO
import Derived.Test.YtkklbnheiganlaaPlI
namespace Go.Proofs.Ytkklbnheiganlaa
open Go.RowKit Go.Proofs
set_option linter.unusedVariables false

theorem infoPart : (Try.prog.info? 78).map (fun i => (i.zero, i.size, i.bytes)) = some (some (.agg #[.int .i64 0, .int .i64 0]), 2, 16) := by kernel_rfl
/-- The state of such a loop. -/
def GrowQ (w : World) (f : Nat → Int × Int) (v : Value) (k : Nat) (wr : World) : Prop := wr.ownsRow w.heap.size 78 2 v k (cellsL f k) ∧ Below w.heap.size w wr
theorem GrowQ.start (w : World) (f : Nat → Int × Int) : GrowQ w f (.slice none 0 0) 0 w := ⟨World.ownsRow_nil _ _ _ _, Below.refl _ _⟩
theorem GrowQ.step {w wr W w1 : World} {f : Nat → Int × Int} {v v1 : Value} {k : Nat} (h : GrowQ w f v k wr) (hW : Below wr.heap.size wr W) (ho : w1.ownsRow w.heap.size 78 2 v1 (k + 1) (cellsL f k ++ [.int .i64 (f k).1, .int .i64 (f k).2])) (hg : W.grownBy w1 v.ownBlock) : GrowQ w f v1 (k + 1) w1 := by
  refine ⟨by rw [← cellsL_succ]; exact ho, (h.2.trans (hW.mono h.2.size)).grown hg (Nat.le_trans h.2.size hW.size) (fun k hk => (h.1.lt k hk).1)⟩
theorem GrowQ.done {w wr : World} {f : Nat → Int × Int} {v : Value} {k : Nat} (h : GrowQ w f v k wr) : ∃ A c, v = .slice A k c ∧ RdI wr wr.heap.size A k f := by
  obtain ⟨F, hF, hx⟩ := OwnRow.of_own h.1
  have hFc : ∀ i, i < k * 2 → F i = cellI f i := fun i hi => hx i _ (cellsL_get hi)
  rcases hF with ⟨rfl, rfl⟩ | ⟨g, cap, rfl, _, hnc, hr⟩
  · exact ⟨none, 0, rfl, RdI.none⟩
  · exact ⟨_, cap, rfl, rdI_of_row hr (by omega) (fun i hi => ⟨by rw [hFc _ (by omega), cellI_even], by rw [hFc _ (by omega), cellI_odd]⟩)⟩

set_option maxHeartbeats 1000000 in
theorem toParts (A : Option Addr) (n c B : Nat) (f : Nat → Int × Int) (w : World) (hn : n * 16 ≤ 140737488351232) (hB : B ≤ w.heap.size) (hrd : RdI w B A n f) :
    Calls Try.prog 43 #[.slice A n c] w (NewI w n f) := by
  obtain ⟨i0, hi0, hz0, hz1, hz2⟩ := info_parts infoPart
  have HR := Lib.hid (fun w' (hb : Below w.heap.size w w') => hrd.keep hb hB); clear hrd
  go_enter Try.func43, Try.ntmps43
  go_wp2_with fail
  go_loopw [3, 8] (fun v vi wr => ∃ k : Nat, k ≤ n ∧ vi = .int .i64 k ∧ Hid (GrowQ w f v k wr)) (fun _ vi _ => n - (intOf vi).toNat)
  case atStart => exact ⟨0, Nat.zero_le _, rfl, GrowQ.start w f⟩
  case round =>
    obtain ⟨k, hk, rfl, HI⟩ := hrel
    by_cases hlt : k < n
    · obtain ⟨b, off, rfl, _, hc1, hc2⟩ := (HR.out wr HI.out.2).at hlt
      have hbs := HI.out.2.size
      generalize hx : (f k).1 = x at hc1
      generalize hy : (f k).2 = y at hc2
      have HX := Lib.hid hx; have HY := Lib.hid hy; clear hx hy
      go_wp2_with (at_builtin; refine wpList_append_own _ rfl _ _ 55 rfl w.heap.size 78 i0 (.agg #[.int .i64 0, .int .i64 0]) 2 16 Try.underlying55 hi0 hz0 hz1 hz2 rfl (by decide) _ _ _ rfl ((HI.out.1.alloc _).alloc _) ⟨wr.heap.size + 1, 0, none⟩ 1 1 [.int .i64 x, .int .i64 y] rfl rfl ?c1 ?c2 ?c3 ?c4 ?c5 ?_)
      case c1 => exact cell_two_new _ _ _ _ (by simp)
      case c2 => simp [Value.oneCell']
      case c3 => simp only [maxLen]; omega
      case c4 => omega
      case c5 => simp; omega
      intro v1 w1 ho1 hg1 _
      rw [← HX.out, ← HY.out] at ho1
      have HG := Lib.hid (HI.out.step (((Below.refl _ _).alloc (Nat.le_refl _) _).alloc (by simp) _) ho1 hg1)
      clear ho1 hg1
      go_wp2_with fail
      go_roundw
      case rel => exact ⟨k + 1, hlt, by go_num, HG.out⟩
      case measure => simp [intOf]; omega
    · obtain rfl : k = n := by omega
      obtain ⟨A1, c1, rfl, hr1⟩ := HI.out.done
      have HB := Lib.hid (And.intro hr1 HI.out.2); clear hr1
      go_wp2_with fail
      go_ret
      exact ⟨A1, c1, rfl, HB.out.1, HB.out.2⟩

/-- Of two numbers one comes before the other. -/
def StrictP (r : Int → Int → Bool) (f : Nat → Int) (n : Nat) : Prop := ∀ i j, j < i → i < n → (r (f i) (f j) || r (f j) (f i)) = true

theorem cnt_le_of {q q' : Nat → Bool} : ∀ {n : Nat}, (∀ k, k < n → q k = true → q' k = true) → cnt q n ≤ cnt q' n
  | 0, _ => Nat.le_refl _
  | n + 1, h => by
    show cnt q n + _ ≤ cnt q' n + _
    have ih := cnt_le_of (n := n) fun k hk => h k (by omega)
    by_cases c : q n = true
    · rw [if_pos c, if_pos (h n (by omega) c)]; omega
    · rw [if_neg c]; omega
theorem cnt_lt_of {q q' : Nat → Bool} {n i : Nat} (h : ∀ k, k < n → q k = true → q' k = true) (hi : i < n) (h1 : q i = false) (h2 : q' i = true) : cnt q n < cnt q' n := by
  have e1 := cnt_set q' i false n hi
  rw [if_pos h2] at e1
  have e2 : cnt q n ≤ cnt (fun k => if k = i then false else q' k) n := cnt_le_of fun k hk hq => by
    by_cases c : k = i
    · subst c; rw [h1] at hq; cases hq
    · rw [if_neg c]; exact h k hk hq
  have e3 : (if false = true then 1 else 0) = 0 := rfl
  omega
theorem cnt_pos_of {q : Nat → Bool} {n i : Nat} (hi : i < n) (h : q i = true) : 0 < cnt q n := by
  have := cnt_lt_of (q := fun _ => false) (q' := q) (n := n) (i := i) (fun k _ h => by cases h) hi rfl h
  omega

section
variable {r : Int → Int → Bool} {f g : Nat → Int} {n : Nat}
/-- Lists with the same counts have the same numbers. -/
theorem from_cnt (hc : ∀ q : Int → Bool, cnt (fun k => q (g k)) n = cnt (fun k => q (f k)) n) {k : Nat} (hk : k < n) : ∃ i, i < n ∧ f i = g k := by
  have h1 : 0 < cnt (fun j => decide (g j = g k)) n := cnt_pos_of hk (by simp)
  rw [hc (fun x => decide (x = g k))] at h1
  obtain ⟨i, hi, e⟩ := cnt_pos h1
  exact ⟨i, hi, by simpa using e⟩
theorem weak_cnt (hW : WeakP r f n) (hc : ∀ q : Int → Bool, cnt (fun k => q (g k)) n = cnt (fun k => q (f k)) n) : WeakP r g n := fun i hi => by
  obtain ⟨i', hi', e1⟩ := from_cnt hc hi
  refine ⟨by rw [← e1]; exact (hW i' hi').1, fun j hj => ?_⟩
  obtain ⟨j', hj', e2⟩ := from_cnt hc hj
  refine ⟨by rw [← e1, ← e2]; exact ((hW i' hi').2 j' hj').1, fun k hk => ?_⟩
  obtain ⟨k', hk', e3⟩ := from_cnt hc hk
  rw [← e1, ← e2, ← e3]
  exact ((hW i' hi').2 j' hj').2 k' hk'
theorem weak_trans (hW : WeakP r f n) {i j k : Nat} (hi : i < n) (hj : j < n) (hk : k < n) (h1 : r (f i) (f j) = true) (h2 : r (f j) (f k) = true) : r (f i) (f k) = true := by
  have h := ((hW i hi).2 j hj).2 k hk
  unfold weak3 at h; rw [h1, h2] at h
  cases hc : r (f i) (f k)
  · rw [hc] at h; simp at h
  · rfl
/-- How many come before x. -/
def rho (r : Int → Int → Bool) (f : Nat → Int) (n : Nat) (x : Int) : Nat := cnt (fun j => r (f j) x) n
theorem rho_lt (hW : WeakP r f n) {i j : Nat} (hi : i < n) (hj : j < n) (h : r (f i) (f j) = true) : rho r f n (f i) < rho r f n (f j) :=
  cnt_lt_of (fun k hk hq => weak_trans hW hk hi hj hq h) hi (hW i hi).1 h
theorem strict_or (hS : StrictP r f n) {i j : Nat} (hi : i < n) (hj : j < n) (h : f i ≠ f j) : r (f i) (f j) = true ∨ r (f j) (f i) = true := by
  rcases Nat.lt_trichotomy i j with c | c | c
  · have := hS j i c hj
    rw [Bool.or_eq_true] at this
    exact this.symm
  · exact absurd (by rw [c]) h
  · have := hS i j c hi
    rw [Bool.or_eq_true] at this
    exact this
theorem rho_inj (hW : WeakP r f n) (hS : StrictP r f n) {i j : Nat} (hi : i < n) (hj : j < n) (h : rho r f n (f i) = rho r f n (f j)) : f i = f j := by
  rcases Classical.em (f i = f j) with c | c
  · exact c
  · rcases strict_or hS hi hj c with d | d
    · have := rho_lt hW hi hj d; omega
    · have := rho_lt hW hj hi d; omega
theorem rho_asc (hW : WeakP r f n) (hS : StrictP r f n) (hc : ∀ q : Int → Bool, cnt (fun k => q (g k)) n = cnt (fun k => q (f k)) n) (hs : ∀ i j, i < j → j < n → r (g j) (g i) = false) : AscG leI (fun k => (rho r f n (g k) : Int)) n := fun i j hij hj => by
  obtain ⟨i', hi', e1⟩ := from_cnt hc (show i < n by omega)
  obtain ⟨j', hj', e2⟩ := from_cnt hc hj
  have h1 := hs i j hij hj
  rw [← e1, ← e2] at h1
  show decide ((rho r f n (g i) : Int) ≤ (rho r f n (g j) : Int)) = true
  rw [← e1, ← e2]
  rcases Classical.em (f i' = f j') with c | c
  · rw [c]; simp
  · rcases strict_or hS hi' hj' c with d | d
    · have := rho_lt hW hi' hj' d; exact decide_eq_true (by omega)
    · rw [h1] at d; cases d
/-- There is one list in order. -/
theorem order_unique {g1 g2 : Nat → Int} (hW : WeakP r f n) (hS : StrictP r f n) (c1 : ∀ q : Int → Bool, cnt (fun k => q (g1 k)) n = cnt (fun k => q (f k)) n) (c2 : ∀ q : Int → Bool, cnt (fun k => q (g2 k)) n = cnt (fun k => q (f k)) n)
    (s1 : ∀ i j, i < j → j < n → r (g1 j) (g1 i) = false) (s2 : ∀ i j, i < j → j < n → r (g2 j) (g2 i) = false) : ∀ k, k < n → g1 k = g2 k := fun k hk => by
  have h := asc_unique lin_leI (rho_asc hW hS c1 s1) (rho_asc hW hS c2 s2) (fun x => by
    rw [c1 (fun y => decide ((rho r f n y : Int) = x)), c2 (fun y => decide ((rho r f n y : Int) = x))]) k hk
  obtain ⟨i', hi', e1⟩ := from_cnt c1 hk
  obtain ⟨j', hj', e2⟩ := from_cnt c2 hk
  rw [← e1, ← e2] at h ⊢
  exact rho_inj hW hS hi' hj' (by omega)
end

set_option maxRecDepth 100000 in
set_option maxHeartbeats 2000000 in
theorem strictly (sz : Int) (A : Option Addr) (m c B : Nat) (g : Nat → Bool) (A' : Option Addr) (n c' B' : Nat) (f : Nat → Int) (w : World) (hsz : I64 sz) (hm : m ≤ 140737488351232) (hB : B ≤ w.heap.size) (hrd : Rd w B Value.bool A m g)
    (hf64 : ∀ i, I64 (f i)) (hn : n ≤ 4611686018427387903) (hnc : n ≤ c') (hcc : c' ≤ 4611686018427387903) (hB' : B' ≤ w.heap.size) (hrd' : Rd w B' (Value.int .i64) A' n f) :
    Calls Try.prog 41 #[.agg #[.int .i64 sz, .slice A m c], .slice A' n c'] w (TellsB (StrictP (relB sz m g) f n) w) := by
  have HC := Lib.hid (fun i j w' (v : Bool) (hv : relB sz m g (f i) (f j) = v) (hi : BoxInv w sz A m c w') => (comes sz (f i) (f j) A m c B g w' hsz (hf64 i) (hf64 j) hm (Nat.le_trans hB hi.bel.size) (hrd.keep hi.bel hB)).mono (R' := fun e w2 => e = .returned (.bool v) ∧ BoxInv w sz A m c w2) fun e w2 h => ⟨by rw [← hv]; exact h.1, hi.step h.2⟩)
  have HR := Lib.hid (fun w' (hbel : Below w.heap.size w w') => hrd'.keep hbel hB')
  clear hrd hrd' hB hB' hf64 hsz
  generalize relB sz m g = r at *
  have H0 := Lib.hid (BoxInv.first w sz A m c 33)
  go_enter Try.func41, Try.ntmps41
  go_wp2_with fail
  go_loopg [11] n (fun q vi wr => ∃ i : Nat, i ≤ n ∧ n - i ≤ q ∧ vi = .int .i64 i ∧ Hid (BoxInv w sz A m c wr ∧ StrictP r f i))
  case atStart => exact ⟨0, Nat.zero_le _, by omega, rfl, H0.out, fun i j _ h' => absurd h' (Nat.not_lt_zero _)⟩
  case round =>
    clear H0
    obtain ⟨i, hi, hq, rfl, HI⟩ := hrel
    by_cases hlt : i < n
    · have hlz : (i : Int) < (n : Int) := by omega
      have hic : (i : Int) ≤ (c' : Int) := by omega
      obtain ⟨b, off, rfl, _, hc⟩ := (HR.out _ HI.out.1.bel).at hlt
      obtain ⟨wo, rfl⟩ : ∃ wo : World, wo = wr := ⟨_, rfl⟩
      go_wp2_with fail
      go_loopg [20] i (fun q vj wr => ∃ j : Nat, j ≤ i ∧ i - j ≤ q ∧ vj = .int .i64 j ∧ Hid (BoxInv w sz A m c wr ∧ ∀ j', j' < j → (r (f i) (f j') || r (f j') (f i)) = true))
      case atStart => exact ⟨0, Nat.zero_le _, by omega, rfl, HI.out.1, fun j' h' => absurd h' (Nat.not_lt_zero _)⟩
      case round =>
        obtain ⟨j, hj, hq2, rfl, HK⟩ := hrel
        by_cases hij : j < i
        · have hjz : (j : Int) < (i : Int) := by omega
          obtain ⟨b2, off2, hA2, _, hc2⟩ := (HR.out _ HK.out.1.bel).at (show j < n by omega)
          simp only [Option.some.injEq, Addr.mk.injEq, and_true] at hA2
          obtain ⟨rfl, rfl⟩ := hA2
          have p0 := HK.out.1.c0
          have p1 := HK.out.1.c1
          cases hv : r (f i) (f j)
          · have HV := Lib.hid hv; clear hv
            cases hu : r (f j) (f i)
            · have HU := Lib.hid hu; clear hu
              go_wp2_with fail
              refine (HC.out i j _ false HV.out HK.out.1).mono ?_
              rintro e w1 ⟨rfl, hi1⟩
              have H1 := Lib.hid hi1
              have q0 := H1.out.c0
              have q1 := H1.out.c1
              clear hi1
              go_wp2_with fail
              refine (HC.out j i _ false HU.out H1.out).mono ?_
              rintro e w2 ⟨rfl, hi2⟩
              have H2 := Lib.hid hi2
              clear hi2
              go_wp2_with fail
              go_ret
              exact ⟨false, rfl, ⟨(fun h => by cases h), (fun h => by have := h i j hij hlt; rw [HV.out, HU.out] at this; cases this)⟩, H2.out.bel⟩
            · have HU := Lib.hid hu; clear hu
              go_wp2_with fail
              refine (HC.out i j _ false HV.out HK.out.1).mono ?_
              rintro e w1 ⟨rfl, hi1⟩
              have H1 := Lib.hid hi1
              have q0 := H1.out.c0
              have q1 := H1.out.c1
              clear hi1
              go_wp2_with fail
              refine (HC.out j i _ true HU.out H1.out).mono ?_
              rintro e w2 ⟨rfl, hi2⟩
              have H2 := Lib.hid hi2
              clear hi2
              go_wp2_with fail
              go_roundg (i - (j + 1))
              case measure => omega
              case rel => exact ⟨j + 1, hij, Nat.le_refl _, by go_num, H2.out, fun j' hj' => by
                rcases Nat.lt_succ_iff_lt_or_eq.1 hj' with h | h
                · exact HK.out.2 j' h
                · subst h; rw [HU.out, Bool.or_true]⟩
          · have HV := Lib.hid hv; clear hv
            go_wp2_with fail
            refine (HC.out i j _ true HV.out HK.out.1).mono ?_
            rintro e w1 ⟨rfl, hi1⟩
            have H1 := Lib.hid hi1
            clear hi1
            go_wp2_with fail
            go_roundg (i - (j + 1))
            case measure => omega
            case rel => exact ⟨j + 1, hij, Nat.le_refl _, by go_num, H1.out, fun j' hj' => by
              rcases Nat.lt_succ_iff_lt_or_eq.1 hj' with h | h
              · exact HK.out.2 j' h
              · subst h; rw [HV.out, Bool.true_or]⟩
        · have hjz : ¬ ((j : Int) < (i : Int)) := by omega
          go_wp2_with fail
          go_roundg (n - (i + 1))
          case measure => omega
          case rel => exact ⟨i + 1, hlt, Nat.le_refl _, by go_num, HK.out.1, fun a b h1 h2 => by
            rcases Nat.lt_succ_iff_lt_or_eq.1 h2 with h | h
            · exact HI.out.2 a b h1 h
            · subst h; exact HK.out.2 b (by omega)⟩
    · have hlz : ¬ ((i : Int) < (n : Int)) := by omega
      obtain rfl : i = n := by omega
      go_wp2_with fail
      go_ret
      exact ⟨true, rfl, ⟨fun _ => HI.out.2, fun _ => rfl⟩, HI.out.1.bel⟩
end Go.Proofs.Ytkklbnheiganlaa
