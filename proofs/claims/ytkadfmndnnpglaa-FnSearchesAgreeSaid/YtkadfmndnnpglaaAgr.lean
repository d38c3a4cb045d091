/-
  The walks of slices.BinarySearchFunc over signs and of the law FnSearchesAgree.
-/
import Derived.Test.YtkadfmndnnpglaaBinS
import Derived.Test.YtkadfmndnnpglaaSrchTrue
import Derived.Test.YtkadfmndnnpglaaFndSigns
namespace Go.Proofs.Ytkadfmndnnpglaa
open Go.RowKit Go.Proofs
set_option linter.unusedVariables false

theorem agree_int_info : (Try.prog.info? 3).map (fun i => (i.zero, i.size, i.bytes)) = some (some (.int .i64 0), 1, 8) := by kernel_rfl
theorem agree_bool_info : (Try.prog.info? 4).map (fun i => (i.zero, i.size, i.bytes)) = some (some (.bool false), 1, 1) := by kernel_rfl

set_option maxHeartbeats 400000 in
theorem signs1 (x y : Int) (w : World) : Calls Try.prog 49 #[.int .i64 x, .int .i64 y] w fun e w' => e = .returned (.int .i64 x) ∧ w = w' := by
  go_enter Try.func49, Try.ntmps49
  go_wp2
  go_ret
  exact ⟨rfl, rfl⟩

set_option maxHeartbeats 1000000 in
theorem binarySearchFunc (n c : Nat) (A : Option Addr) (f : Nat → Int) (w : World) (B : Nat) (hn : n ≤ 9223372036854775807) (hrd : Rd w B (Value.int .i64) A n f) :
    Calls Try.prog 48 #[.slice A n c, .int .i64 0, .func (.func 49) #[] #[]] w fun e w' => e = .returned (.tuple #[.int .i64 (bsr f 0 n), .bool (bsf f 0 n)]) ∧ w = w' := by
  have HR := Lib.hid hrd; clear hrd
  unfold bsf bsr
  generalize hs : srch (fun i => decide (0 ≤ f i)) n 0 n [] = sol
  have HS := Lib.hid hs; clear hs
  go_enter Try.func48, Try.ntmps48
  go_wp2_with fail
  go_loopg [9, 10] n (fun kx s5 s6 wr => ∃ (lo hi : Nat) (l : List Nat), s5 = .int .i64 lo ∧ s6 = .int .i64 hi ∧ lo ≤ hi ∧ hi ≤ n ∧ hi - lo ≤ kx ∧ w = wr ∧ Hid (srch (fun i => decide (0 ≤ f i)) kx lo hi l = sol))
  case atStart => exact ⟨0, n, [], rfl, rfl, Nat.zero_le _, Nat.le_refl _, by omega, rfl, HS.out⟩
  case round =>
    obtain ⟨lo, hi, l, rfl, rfl, hlh, hin, hg, rfl, HI⟩ := hrel
    by_cases hlt : lo < hi
    · obtain ⟨b, off, rfl, _, hc⟩ := HR.out.at (show (lo + hi) / 2 < n by omega)
      have hh := half lo hi hlh (by omega)
      generalize hfx : f ((lo + hi) / 2) = y at hc
      have HX := Lib.hid hfx; clear hfx
      have hmid : lo ≤ (lo + hi) / 2 ∧ (lo + hi) / 2 < hi := by omega
      have hmz : (((lo + hi) / 2 : Nat) : Int) < (n : Int) := by omega
      have HC := Lib.hid (signs1 y 0 w)
      by_cases hp : 0 ≤ y
      · go_wp2_with fail
        refine HC.out.mono ?_
        rintro e w' ⟨rfl, rfl⟩
        go_wp2_with fail
        go_roundg ((lo + hi) / 2 - lo)
        case measure => omega
        case rel => exact ⟨lo, (lo + hi) / 2, _, rfl, rfl, by omega, by omega, by omega, rfl, by rw [← HI.out]; exact (srch_yes _ gk lo hi l hlt hg (decide_eq_true (by rw [HX.out]; exact hp))).symm⟩
      · go_wp2_with fail
        refine HC.out.mono ?_
        rintro e w' ⟨rfl, rfl⟩
        go_wp2_with fail
        go_roundg (hi - ((lo + hi) / 2 + 1))
        case measure => omega
        case rel => exact ⟨(lo + hi) / 2 + 1, hi, _, by go_num, rfl, by omega, by omega, by omega, rfl, by rw [← HI.out]; exact (srch_no _ gk lo hi l hlt hg (decide_eq_false (by rw [HX.out]; omega))).symm⟩
    · have hS := HI.out
      rw [srch_stop _ _ _ _ _ hlt] at hS
      subst hS
      by_cases hln : lo < n
      · obtain ⟨b, off, rfl, _, hc⟩ := HR.out.at hln
        generalize hfx : f lo = y at hc
        have HX := Lib.hid hfx; clear hfx
        have HC := Lib.hid (signs1 y 0 w)
        go_wp2_with fail
        refine HC.out.mono ?_
        rintro e w' ⟨rfl, rfl⟩
        go_wp2_with fail
        go_ret2
        exact ⟨by simp [HX.out], rfl⟩
      · have hd : decide ((lo : Int) < (n : Int)) = false := decide_eq_false (by omega)
        go_wp2_with fail
        go_ret2
        exact ⟨by simp, rfl⟩

set_option maxHeartbeats 400000 in
theorem binarySearchSigns (n c : Nat) (A : Option Addr) (f : Nat → Int) (w : World) (B : Nat) (hn : n ≤ 9223372036854775807) (hrd : Rd w B (Value.int .i64) A n f) :
    Calls Try.prog 33 #[.slice A n c] w fun e w' => e = .returned (.tuple #[.int .i64 (bsr f 0 n), .bool (bsf f 0 n)]) ∧ w = w' := by
  have hS := binarySearchFunc n c A f w B hn hrd
  generalize bsr f 0 n = r at hS ⊢
  generalize bsf f 0 n = z at hS ⊢
  have HS := Lib.hid hS; clear hS hrd
  go_enter Try.func33, Try.ntmps33
  go_wp2_with fail
  refine HS.out.mono ?_
  rintro e w' ⟨rfl, rfl⟩
  go_wp2_with fail
  go_ret2
  exact ⟨rfl, rfl⟩

/-! ### Three rows of the call's own -/
def Ap (a b : Value) : Prop := ∀ k, a.ownBlock = some k → b.ownBlock ≠ some k
theorem Ap.symm {a b : Value} (h : Ap a b) : Ap b a := fun k h1 h2 => h k h2 h1

/-- Three rows that the call owns, no two in one block; nothing below B has changed. -/
structure Rows3 (B : Nat) (W0 W : World) (e1 e2 e3 : TypeId) (v1 v2 v3 : Value) (x1 x2 x3 : List Value) : Prop where
  below : Below B W0 W
  size : B ≤ W.heap.size
  own1 : W.ownsRow B e1 1 v1 x1.length x1
  own2 : W.ownsRow B e2 1 v2 x2.length x2
  own3 : W.ownsRow B e3 1 v3 x3.length x3
  ap12 : Ap v1 v2
  ap13 : Ap v1 v3
  ap23 : Ap v2 v3

theorem Rows3.rot {B : Nat} {W0 W : World} {e1 e2 e3 : TypeId} {v1 v2 v3 : Value} {x1 x2 x3 : List Value} (h : Rows3 B W0 W e1 e2 e3 v1 v2 v3 x1 x2 x3) : Rows3 B W0 W e2 e3 e1 v2 v3 v1 x2 x3 x1 :=
  ⟨h.below, h.size, h.own2, h.own3, h.own1, h.ap23, h.ap12.symm, h.ap13.symm⟩

theorem kept_of_ap {B : Nat} {W W' : World} {e : TypeId} {v u : Value} {x : List Value} {o : Obj} (h : W.ownsRow B e 1 v x.length x) (hg : (W.alloc o).grownBy W' u.ownBlock) (ha : Ap u v) : W'.ownsRow B e 1 v x.length x := by
  refine (h.alloc o).kept hg ?_
  cases hv : v.ownBlock with
  | none => exact .inl rfl
  | some k => exact .inr fun he => ha k he.symm hv

theorem ap_new {B : Nat} {W : World} {e : TypeId} {v u u' : Value} {x : List Value} (h : W.ownsRow B e 1 v x.length x) (ha : Ap u v) (hat : u'.ownBlock = u.ownBlock ∨ u'.ownBlock = some (W.heap.size + 1)) : Ap u' v := by
  intro k hk hv
  rcases hat with hat | hat
  · exact ha k (hat ▸ hk) hv
  · have := (h.lt k hv).2
    rw [hat] at hk
    simp at hk
    omega

theorem Rows3.step {B : Nat} {W0 W W' : World} {e1 e2 e3 : TypeId} {v1 v2 v3 v' x : Value} {x1 x2 x3 : List Value} {o : Obj} (h : Rows3 B W0 W e1 e2 e3 v1 v2 v3 x1 x2 x3)
    (ho : W'.ownsRow B e1 1 v' (x1.length + 1) (x1 ++ [x])) (hg : (W.alloc o).grownBy W' v1.ownBlock) (hat : v'.ownBlock = v1.ownBlock ∨ v'.ownBlock = some (W.heap.size + 1)) :
    Rows3 B W0 W' e1 e2 e3 v' v2 v3 (x1 ++ [x]) x2 x3 := by
  refine ⟨(h.below.alloc h.size o).grown hg (by simp; have := h.size; omega) fun k hk => (h.own1.lt k hk).1, ?_, by simpa using ho, kept_of_ap h.own2 hg h.ap12, kept_of_ap h.own3 hg h.ap13, ap_new h.own2 h.ap12 hat, ap_new h.own3 h.ap13 hat, h.ap23⟩
  have h1 := hg.size; have h2 := h.size; simp at h1; omega

/-- The rows behind k rounds: whether a number is at least v, and its sign both ways. -/
def upv (f : Nat → Int) (v : Int) (i : Nat) : Int := if f i < v then -1 else if v < f i then 1 else 0
def dnv (f : Nat → Int) (v : Int) (i : Nat) : Int := if f i < v then 1 else if v < f i then -1 else 0
def isl (f : Nat → Int) (v : Int) (k : Nat) : List Value := (List.range k).map fun i => Value.bool (decide (v ≤ f i))
def upl (f : Nat → Int) (v : Int) (k : Nat) : List Value := (List.range k).map fun i => Value.int .i64 (upv f v i)
def dnl (f : Nat → Int) (v : Int) (k : Nat) : List Value := (List.range k).map fun i => Value.int .i64 (dnv f v i)
def Made (f : Nat → Int) (v : Int) (w wr : World) (v5 v6 v7 : Value) (k : Nat) : Prop := Rows3 w.heap.size w wr 4 3 3 v5 v6 v7 (isl f v k) (upl f v k) (dnl f v k)
def I3 (f : Nat → Int) (v : Int) (k : Nat) (u d : Int) : Prop := u = (if f k < v then -1 else if v < f k then 1 else 0) ∧ d = (if f k < v then 1 else if v < f k then -1 else 0)

theorem i3_lt {f : Nat → Int} {v : Int} {k : Nat} {y : Int} (h : f k = y) (hy : y < v) : I3 f v k (-1) 1 := by
  unfold I3; rw [h]; constructor <;> rw [if_pos hy]
theorem i3_gt {f : Nat → Int} {v : Int} {k : Nat} {y : Int} (h : f k = y) (hy : v < y) : I3 f v k 1 (-1) := by
  unfold I3; rw [h]; constructor <;> rw [if_neg (by omega), if_pos hy]
theorem i3_eq {f : Nat → Int} {v : Int} {k : Nat} {y : Int} (h : f k = y) (hy : y = v) : I3 f v k 0 0 := by
  unfold I3; rw [h]; constructor <;> rw [if_neg (by omega), if_neg (by omega)]

theorem rows3_next {f : Nat → Int} {v : Int} {w wr : World} {v5 v6 v7 : Value} {k : Nat} {u d : Int} {b : Bool}
    (h : Rows3 w.heap.size w wr 4 3 3 v5 v6 v7 (isl f v k ++ [.bool b]) (upl f v k ++ [.int .i64 u]) (dnl f v k ++ [.int .i64 d])) (hi : I3 f v k u d) (hb : b = decide (v ≤ f k)) : Made f v w wr v5 v6 v7 (k + 1) := by
  unfold Made
  have e1 : isl f v (k + 1) = isl f v k ++ [.bool b] := by rw [hb]; simp [isl, List.range_succ]
  have e2 : upl f v (k + 1) = upl f v k ++ [.int .i64 u] := by rw [hi.1]; simp [upl, upv, List.range_succ]
  have e3 : dnl f v (k + 1) = dnl f v k ++ [.int .i64 d] := by rw [hi.2]; simp [dnl, dnv, List.range_succ]
  rw [e1, e2, e3]
  exact h

theorem rd_of_own {α : Type} {w : World} {B : Nat} {e : TypeId} {vv : Value} {n : Nat} {enc : α → Value} {g : Nat → α} (h : w.ownsRow B e 1 vv n ((List.range n).map fun i => enc (g i))) : ∃ A c, vv = .slice A n c ∧ Rd w w.heap.size enc A n g := by
  rcases h.2 with ⟨rfl, h0⟩ | ⟨b, cap, cur, rfl, hb, hg, hlc, _⟩
  · subst h0
    exact ⟨none, 0, rfl, Rd.none⟩
  · refine ⟨_, cap, rfl, fun hn => ⟨b, 0, rfl, lt_of_block hg, fun i hi => ?_⟩⟩
    rw [Nat.zero_add, h.cellAt i (by omega)]
    simp [hi]

theorem upv_ge (f : Nat → Int) (v : Int) (i : Nat) : decide (0 ≤ upv f v i) = decide (v ≤ f i) := by
  unfold upv; rw [decide_eq_decide]; split
  · omega
  · split <;> omega
theorem upv_zero (f : Nat → Int) (v : Int) (i : Nat) : (upv f v i == 0) = (f i == v) := by
  rw [Bool.eq_iff_iff]; simp only [beq_iff_eq]; unfold upv; split
  · omega
  · split <;> omega
theorem dnv_le (f : Nat → Int) (v : Int) (i : Nat) : decide (dnv f v i ≤ 0) = decide (v ≤ f i) := by
  unfold dnv; rw [decide_eq_decide]; split
  · omega
  · split <;> omega
theorem dnv_zero (f : Nat → Int) (v : Int) (i : Nat) : (dnv f v i == 0) = (f i == v) := by
  rw [Bool.eq_iff_iff]; simp only [beq_iff_eq]; unfold dnv; split
  · omega
  · split <;> omega

theorem agree_up (f : Nat → Int) (v : Int) (n : Nat) : bsr (upv f v) 0 n = bsr f v n ∧ bsf (upv f v) 0 n = bsf f v n := by
  have h : bsr (upv f v) 0 n = bsr f v n := by
    unfold bsr
    rw [srch_congr (fun i => decide (0 ≤ upv f v i)) (fun i => decide (v ≤ f i)) n (fun i _ => upv_ge f v i) n 0 n [] (Nat.le_refl _)]
  refine ⟨h, ?_⟩
  unfold bsf
  rw [h, upv_zero]
theorem agree_dn (f : Nat → Int) (v : Int) (n : Nat) : (fnd (dnv f v) n).1 = bsr f v n ∧ (fnd (dnv f v) n).2.1 = bsf f v n := by
  have h : (srch (fun i => decide (dnv f v i ≤ 0)) n 0 n []).1 = bsr f v n := by
    unfold bsr
    rw [srch_congr (fun i => decide (dnv f v i ≤ 0)) (fun i => decide (v ≤ f i)) n (fun i _ => dnv_le f v i) n 0 n [] (Nat.le_refl _)]
  unfold fnd bsf
  rw [h, dnv_zero]
  exact ⟨rfl, rfl⟩

set_option maxHeartbeats 4000000 in
set_option maxRecDepth 100000 in
theorem fnSearchesAgreew (w : World) (A : Option Addr) (n c : Nat) (f : Nat → Int) (hf64 : ∀ i, I64 (f i)) (hl : n ≤ c) (hre : c * 8 ≤ 140737488351232) (hrd : Rd w w.heap.size (Value.int .i64) A n f) (v : Int) (hv : I64 v) :
    Calls Try.prog 14 #[.slice A n c, .int .i64 v] w fun e w' => e = .returned (.bool true) ∧ Below w.heap.size w w' := by
  obtain ⟨i0, hi0, hz0, hz1, hz2⟩ := info_parts agree_int_info
  obtain ⟨ib, hib, hzb0, hzb1, hzb2⟩ := info_parts agree_bool_info
  have hn8 : n * 8 ≤ 140737488351232 := by omega
  have H0 := Lib.hid (ascending n c A f w w.heap.size (by omega) hrd)
  have HR := Lib.hid hrd
  clear hrd hre hl hf64 hv
  go_enter Try.func14, Try.ntmps14
  go_wp2_with fail
  refine H0.out.mono ?_
  rintro e w' ⟨b, rfl, hb, q, rfl⟩
  have HB := Lib.hid hb; clear hb
  cases b with
  | false =>
    go_wp2_with fail
    go_ret
    exact ⟨rfl, below_drewN (Below.refl _ _) _⟩
  | true =>
    have HA := Lib.hid (show AscF f n by simpa using HB.out)
    clear HB H0
    go_wp2_with fail
    go_loopw [5, 6, 7, 24] (fun s5 s6 s7 vi wr => ∃ k : Nat, k ≤ n ∧ vi = .int .i64 k ∧ Hid (Made f v w wr s5 s6 s7 k)) (fun _ _ _ vi _ => n - (intOf vi).toNat)
    case atStart => exact ⟨0, Nat.zero_le _, rfl, ⟨below_drewN (Below.refl _ _) _, Nat.le_refl _, World.ownsRow_nil _ _ _ _, World.ownsRow_nil _ _ _ _, World.ownsRow_nil _ _ _ _, fun k h => by simp [Value.ownBlock] at h, fun k h => by simp [Value.ownBlock] at h, fun k h => by simp [Value.ownBlock] at h⟩⟩
    case round =>
      obtain ⟨k, hk, rfl, HR3⟩ := hrel
      by_cases hlt : k < n
      · obtain ⟨b, off, rfl, _, hc⟩ := (HR.out.keep HR3.out.below (Nat.le_refl _)).at hlt
        have HO5 := Lib.hid HR3.out.own1
        have hsz := HR3.out.size
        have hl1 : (isl f v k).length ≤ k := by simp [isl]
        have hl2 : (upl f v k).length ≤ k := by simp [upl]
        have hl3 : (dnl f v k).length ≤ k := by simp [dnl]
        generalize hfx : f k = y at hc
        have HY := Lib.hid hfx; clear hfx
        by_cases hy1 : y < v
        · go_wp2_with (at_builtin; refine wpList_append_own_at _ rfl _ _ 24 rfl w.heap.size 4 ib (.bool false) 1 1 Try.underlying24 hib hzb0 hzb1 hzb2 rfl (by decide) _ _ _ rfl (HO5.out.alloc _) ⟨wr.heap.size, 0, none⟩ 1 1 [.bool (decide (v ≤ y))] rfl rfl ?x1c1 ?x1c2 ?x1c3 ?x1c4 ?x1c5 ?_)
          try case x1c1 => exact cell_one_new _ _ _
          case x1c2 => simp [Value.oneCell']
          case x1c3 => simp only [maxLen]; omega
          case x1c4 => omega
          case x1c5 => first | omega | (simp; omega)
          intro v5' W1 ho1 hg1 _ ha1
          have R1 := Lib.hid (HR3.out.step ho1 hg1 ha1); clear ho1 hg1 ha1
          have HO6 := Lib.hid R1.out.own2
          have hs1 := R1.out.size
          go_wp2_with (at_builtin; refine wpList_append_own_at _ rfl _ _ 27 rfl w.heap.size 3 i0 (.int .i64 0) 1 8 Try.underlying27 hi0 hz0 hz1 hz2 rfl (by decide) _ _ _ rfl (HO6.out.alloc _) ⟨W1.heap.size, 0, none⟩ 1 1 [.int .i64 (-1)] rfl rfl ?x2c1 ?x2c2 ?x2c3 ?x2c4 ?x2c5 ?_)
          try case x2c1 => exact cell_one_new _ _ _
          case x2c2 => simp [Value.oneCell']
          case x2c3 => simp only [maxLen]; omega
          case x2c4 => omega
          case x2c5 => first | omega | (simp; omega)
          intro v6' W2 ho2 hg2 _ ha2
          have R2 := Lib.hid (R1.out.rot.step ho2 hg2 ha2); clear ho2 hg2 ha2
          have HO7 := Lib.hid R2.out.own2
          have hs2 := R2.out.size
          go_wp2_with (at_builtin; refine wpList_append_own_at _ rfl _ _ 27 rfl w.heap.size 3 i0 (.int .i64 0) 1 8 Try.underlying27 hi0 hz0 hz1 hz2 rfl (by decide) _ _ _ rfl (HO7.out.alloc _) ⟨W2.heap.size, 0, none⟩ 1 1 [.int .i64 (1)] rfl rfl ?x3c1 ?x3c2 ?x3c3 ?x3c4 ?x3c5 ?_)
          try case x3c1 => exact cell_one_new _ _ _
          case x3c2 => simp [Value.oneCell']
          case x3c3 => simp only [maxLen]; omega
          case x3c4 => omega
          case x3c5 => first | omega | (simp; omega)
          intro v7' W3 ho3 hg3 _ ha3
          have R3 := Lib.hid (R2.out.rot.step ho3 hg3 ha3).rot; clear ho3 hg3 ha3
          have HR4 := Lib.hid (rows3_next R3.out (i3_lt HY.out hy1) (show decide (v ≤ y) = decide (v ≤ f k) by rw [HY.out]))
          clear R1 R2 R3 HO5 HO6 HO7 HR3
          go_wp2_with fail
          go_roundw
          case rel => exact ⟨k + 1, hlt, by go_num, HR4.out⟩
          case measure => simp [intOf]; omega
        · by_cases hy2 : v < y
          · go_wp2_with (at_builtin; refine wpList_append_own_at _ rfl _ _ 24 rfl w.heap.size 4 ib (.bool false) 1 1 Try.underlying24 hib hzb0 hzb1 hzb2 rfl (by decide) _ _ _ rfl (HO5.out.alloc _) ⟨wr.heap.size, 0, none⟩ 1 1 [.bool true] rfl rfl ?x4c1 ?x4c2 ?x4c3 ?x4c4 ?x4c5 ?_)
            try case x4c1 => exact cell_one_new _ _ _
            case x4c2 => simp [Value.oneCell']
            case x4c3 => simp only [maxLen]; omega
            case x4c4 => omega
            case x4c5 => first | omega | (simp; omega)
            intro v5' W1 ho1 hg1 _ ha1
            have R1 := Lib.hid (HR3.out.step ho1 hg1 ha1); clear ho1 hg1 ha1
            have HO6 := Lib.hid R1.out.own2
            have hs1 := R1.out.size
            go_wp2_with (at_builtin; refine wpList_append_own_at _ rfl _ _ 27 rfl w.heap.size 3 i0 (.int .i64 0) 1 8 Try.underlying27 hi0 hz0 hz1 hz2 rfl (by decide) _ _ _ rfl (HO6.out.alloc _) ⟨W1.heap.size, 0, none⟩ 1 1 [.int .i64 (1)] rfl rfl ?x5c1 ?x5c2 ?x5c3 ?x5c4 ?x5c5 ?_)
            try case x5c1 => exact cell_one_new _ _ _
            case x5c2 => simp [Value.oneCell']
            case x5c3 => simp only [maxLen]; omega
            case x5c4 => omega
            case x5c5 => first | omega | (simp; omega)
            intro v6' W2 ho2 hg2 _ ha2
            have R2 := Lib.hid (R1.out.rot.step ho2 hg2 ha2); clear ho2 hg2 ha2
            have HO7 := Lib.hid R2.out.own2
            have hs2 := R2.out.size
            go_wp2_with (at_builtin; refine wpList_append_own_at _ rfl _ _ 27 rfl w.heap.size 3 i0 (.int .i64 0) 1 8 Try.underlying27 hi0 hz0 hz1 hz2 rfl (by decide) _ _ _ rfl (HO7.out.alloc _) ⟨W2.heap.size, 0, none⟩ 1 1 [.int .i64 (-1)] rfl rfl ?x6c1 ?x6c2 ?x6c3 ?x6c4 ?x6c5 ?_)
            try case x6c1 => exact cell_one_new _ _ _
            case x6c2 => simp [Value.oneCell']
            case x6c3 => simp only [maxLen]; omega
            case x6c4 => omega
            case x6c5 => first | omega | (simp; omega)
            intro v7' W3 ho3 hg3 _ ha3
            have R3 := Lib.hid (R2.out.rot.step ho3 hg3 ha3).rot; clear ho3 hg3 ha3
            have HR4 := Lib.hid (rows3_next R3.out (i3_gt HY.out hy2) (show true = decide (v ≤ f k) from (decide_eq_true (by rw [HY.out]; omega)).symm))
            clear R1 R2 R3 HO5 HO6 HO7 HR3
            go_wp2_with fail
            go_roundw
            case rel => exact ⟨k + 1, hlt, by go_num, HR4.out⟩
            case measure => simp [intOf]; omega
          · go_wp2_with (at_builtin; refine wpList_append_own_at _ rfl _ _ 24 rfl w.heap.size 4 ib (.bool false) 1 1 Try.underlying24 hib hzb0 hzb1 hzb2 rfl (by decide) _ _ _ rfl (HO5.out.alloc _) ⟨wr.heap.size, 0, none⟩ 1 1 [.bool true] rfl rfl ?x7c1 ?x7c2 ?x7c3 ?x7c4 ?x7c5 ?_)
            try case x7c1 => exact cell_one_new _ _ _
            case x7c2 => simp [Value.oneCell']
            case x7c3 => simp only [maxLen]; omega
            case x7c4 => omega
            case x7c5 => first | omega | (simp; omega)
            intro v5' W1 ho1 hg1 _ ha1
            have R1 := Lib.hid (HR3.out.step ho1 hg1 ha1); clear ho1 hg1 ha1
            have HO6 := Lib.hid R1.out.own2
            have hs1 := R1.out.size
            go_wp2_with (at_builtin; refine wpList_append_own_at _ rfl _ _ 27 rfl w.heap.size 3 i0 (.int .i64 0) 1 8 Try.underlying27 hi0 hz0 hz1 hz2 rfl (by decide) _ _ _ rfl (HO6.out.alloc _) ⟨W1.heap.size, 0, none⟩ 1 1 [.int .i64 (0)] rfl rfl ?x8c1 ?x8c2 ?x8c3 ?x8c4 ?x8c5 ?_)
            try case x8c1 => exact cell_one_new _ _ _
            case x8c2 => simp [Value.oneCell']
            case x8c3 => simp only [maxLen]; omega
            case x8c4 => omega
            case x8c5 => first | omega | (simp; omega)
            intro v6' W2 ho2 hg2 _ ha2
            have R2 := Lib.hid (R1.out.rot.step ho2 hg2 ha2); clear ho2 hg2 ha2
            have HO7 := Lib.hid R2.out.own2
            have hs2 := R2.out.size
            go_wp2_with (at_builtin; refine wpList_append_own_at _ rfl _ _ 27 rfl w.heap.size 3 i0 (.int .i64 0) 1 8 Try.underlying27 hi0 hz0 hz1 hz2 rfl (by decide) _ _ _ rfl (HO7.out.alloc _) ⟨W2.heap.size, 0, none⟩ 1 1 [.int .i64 (0)] rfl rfl ?x9c1 ?x9c2 ?x9c3 ?x9c4 ?x9c5 ?_)
            try case x9c1 => exact cell_one_new _ _ _
            case x9c2 => simp [Value.oneCell']
            case x9c3 => simp only [maxLen]; omega
            case x9c4 => omega
            case x9c5 => first | omega | (simp; omega)
            intro v7' W3 ho3 hg3 _ ha3
            have R3 := Lib.hid (R2.out.rot.step ho3 hg3 ha3).rot; clear ho3 hg3 ha3
            have HR4 := Lib.hid (rows3_next R3.out (i3_eq HY.out (by omega)) (show true = decide (v ≤ f k) from (decide_eq_true (by rw [HY.out]; omega)).symm))
            clear R1 R2 R3 HO5 HO6 HO7 HR3
            go_wp2_with fail
            go_roundw
            case rel => exact ⟨k + 1, hlt, by go_num, HR4.out⟩
            case measure => simp [intOf]; omega
      · obtain rfl : k = n := by omega
        have hM := HR3.out
        unfold Made at hM
        have o1 := hM.own1; have o2 := hM.own2; have o3 := hM.own3
        have hbl := hM.below
        have hsz := hM.size
        rw [show (isl f v k).length = k by simp [isl]] at o1
        rw [show (upl f v k).length = k by simp [upl]] at o2
        rw [show (dnl f v k).length = k by simp [dnl]] at o3
        obtain ⟨A5, c5, rfl, rd5⟩ := rd_of_own (enc := Value.bool) (g := fun i => decide (v ≤ f i)) o1
        obtain ⟨A6, c6, rfl, rd6⟩ := rd_of_own (enc := Value.int .i64) (g := upv f v) o2
        obtain ⟨A7, c7, rfl, rd7⟩ := rd_of_own (enc := Value.int .i64) (g := dnv f v) o3
        have rdx := HR.out.keep hbl (Nat.le_refl _)
        have K1 := Lib.hid (binarySearchInts k c A f v wr w.heap.size (by omega) rdx)
        have k2 := binarySearchSigns k c6 A6 (upv f v) wr wr.heap.size (by omega) rd6
        rw [(agree_up f v k).1, (agree_up f v k).2] at k2
        have K2 := Lib.hid k2; clear k2
        have k3 := findSigns k c7 A7 (dnv f v) wr (by omega) rd7
        rw [(agree_dn f v k).1, (agree_dn f v k).2] at k3
        have K3 := Lib.hid k3; clear k3
        have K4 := Lib.hid (fun w' (hb : Below wr.heap.size wr w') => searchInts k c A f v w' (by omega) ((rdx.keep hb (by omega)).more (Nat.le_trans hsz hb.size)))
        have K5 := Lib.hid (fun w' (hb : Below wr.heap.size wr w') => searchTrue k c5 A5 (fun i => decide (v ≤ f i)) w' (by omega) ((rd5.keep hb (by omega)).more hb.size))
        have hcnt : bsr f v k = cnt (fun i => decide (f i < v)) k := srch_asc v HA.out
        have HC := Lib.hid hcnt; have HBL := Lib.hid hbl; have RDX := Lib.hid rdx
        have hle : bsr f v k ≤ k := by rw [hcnt]; exact cnt_le _ _
        change Hid (∀ w', Below wr.heap.size wr w' → Calls Try.prog 22 #[.slice A k c, .int .i64 v] w' fun e w'' => e = .returned (.int .i64 (bsr f v k)) ∧ Below w'.heap.size w' w'') at K4
        change Hid (∀ w', Below wr.heap.size wr w' → Calls Try.prog 17 #[.slice A5 k c5] w' fun e w'' => e = .returned (.int .i64 (bsr f v k)) ∧ Below w'.heap.size w' w'') at K5
        clear hM o1 o2 o3 hbl rd5 rd6 rd7 rdx HR3 HR HA hcnt
        generalize bsr f v k = r at K1 K2 K3 K4 K5 HC hle
        generalize bsf f v k = z at K1 K2 K3
        have hrr : ((r : Int) == (r : Int)) = true := by simp
        have hzz : (z == z) = true := by simp
        go_wp2_with fail
        refine K1.out.mono ?_
        rintro e w1 ⟨rfl, rfl⟩
        go_wp2_with fail
        refine K2.out.mono ?_
        rintro e w1 ⟨rfl, rfl⟩
        go_wp2_with fail
        refine K3.out.mono ?_
        rintro e w3 ⟨rfl, hb3⟩
        have HB3 := Lib.hid hb3
        have RD3 := Lib.hid (RDX.out.keep hb3 hsz); clear hb3
        go_wp2_with fail
        go_loop [16, 79] (fun s16 vi => ∃ j m : Nat, j ≤ k ∧ m ≤ j ∧ vi = .int .i64 j ∧ s16 = .int .i64 m ∧ Hid (m = cnt (fun i => decide (f i < v)) j)) (fun _ vi => k - (intOf vi).toNat)
        case atStart => exact ⟨0, 0, Nat.zero_le _, Nat.le_refl _, rfl, rfl, show 0 = cnt _ 0 from rfl⟩
        case round =>
          obtain ⟨j, m, hj, hmj, rfl, rfl, HI⟩ := hrel
          by_cases hlt : j < k
          · obtain ⟨b, off, rfl, _, hc⟩ := RD3.out.at hlt
            have HN := Lib.hid (show cnt (fun i => decide (f i < v)) (j + 1) = m + if decide (f j < v) then 1 else 0 by rw [HI.out]; rfl)
            generalize f j = y at hc HN
            by_cases hy : y < v
            · go_wp2_with fail
              go_round
              case rel => exact ⟨j + 1, m + 1, hlt, by omega, by go_num, by go_num, by rw [HN.out, decide_eq_true hy]; rfl⟩
              case measure => simp [intOf]; omega
            · go_wp2_with fail
              go_round
              case rel => exact ⟨j + 1, m, hlt, by omega, by go_num, rfl, by rw [HN.out, decide_eq_false (by omega)]; rfl⟩
              case measure => simp [intOf]; omega
          · obtain rfl : j = k := by omega
            obtain rfl : m = r := by rw [HI.out, HC.out]
            go_wp2_with fail
            refine (K4.out _ HB3.out).mono ?_
            rintro e w4 ⟨rfl, hb4⟩
            have HB4 := Lib.hid (HB3.out.trans (hb4.mono HB3.out.size)); clear hb4
            go_wp2_with fail
            refine (K5.out _ HB4.out).mono ?_
            rintro e w5 ⟨rfl, hb5⟩
            have HB5 := Lib.hid (HB4.out.trans (hb5.mono HB4.out.size)); clear hb5
            go_wp2_with fail
            go_ret
            exact ⟨rfl, HBL.out.trans (HB5.out.mono hsz)⟩
end Go.Proofs.Ytkadfmndnnpglaa
