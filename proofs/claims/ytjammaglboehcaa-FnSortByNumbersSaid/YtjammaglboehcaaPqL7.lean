/-
  A relation that a law builds; the walk of the law FnSortByNumbers.
-/
import Derived.Test.YtjammaglboehcaaPqL6
namespace Go.Proofs.Ytjammaglboehcaa
open Go.RowKit Go.Proofs
set_option linter.unusedVariables false

def boolsL (gb : Nat → Bool) (k : Nat) : List Value := (List.range k).map (fun i => .bool (gb i))
theorem boolsL_succ (gb : Nat → Bool) (k : Nat) : boolsL gb k ++ [.bool (gb k)] = boolsL gb (k + 1) := by
  unfold boolsL; rw [List.range_succ]; simp
theorem boolsL_get {gb : Nat → Bool} {k i : Nat} (h : i < k) : (boolsL gb k)[i]? = some (.bool (gb i)) := by
  unfold boolsL; rw [List.getElem?_map, List.getElem?_range h]; rfl
/-- The box rb of a relation that is being built: k answers so far. -/
def GrowB (rb : Nat) (sz : Int) (gb : Nat → Bool) (k : Nat) (v : Value) (W : World) : Prop :=
  rb < W.heap.size ∧ W.cell? ⟨rb, 0, none⟩ = some (.int .i64 sz) ∧ W.cell? ⟨rb, 1, none⟩ = some v ∧ W.frozen? ⟨rb, 1, none⟩ = false ∧ W.ownsRow (rb + 1) 4 1 v k (boolsL gb k)
theorem GrowB.step {rb : Nat} {sz : Int} {gb : Nat → Bool} {k : Nat} {v v' : Value} {W W1 W2 : World} (h : GrowB rb sz gb k v W) (hW : Below W.heap.size W W1) (ho : W2.ownsRow (rb + 1) 4 1 v' (k + 1) (boolsL gb k ++ [.bool (gb k)])) (hgr : W1.grownBy W2 v.ownBlock) :
    (W2.cell? ⟨rb, 1, none⟩ = some v ∧ W2.frozen? ⟨rb, 1, none⟩ = false) ∧ GrowB rb sz gb (k + 1) v' (W2.setCell ⟨rb, 1, none⟩ v') ∧ Below rb W (W2.setCell ⟨rb, 1, none⟩ v') := by
  obtain ⟨h0, h1, h2, h3, h4⟩ := h
  have hb : Below (rb + 1) W W2 := (hW.mono (by omega)).grown hgr (by have := hW.size; omega) (fun k hk => (h4.lt k hk).1)
  have hx : ∀ k, W2.cell? ⟨rb, k, none⟩ = W.cell? ⟨rb, k, none⟩ := fun k => hb.cell (p := ⟨rb, k, none⟩) (Nat.lt_succ_self _)
  have hf : W2.frozen? ⟨rb, 1, none⟩ = W.frozen? ⟨rb, 1, none⟩ := hb.frozen (p := ⟨rb, 1, none⟩) (Nat.lt_succ_self _)
  refine ⟨⟨(hx 1).trans h2, hf.trans h3⟩, ⟨?_, (World.cell?_setCell_other _ _ _ _ (fun e => by have := (Addr.mk.inj e).2.1; omega)).trans ((hx 0).trans h1), World.cell?_setCell_same _ _ _ ((hx 1).trans h2), (World.frozen?_setCell _ _ _ _).trans (hf.trans h3), ?_⟩, (hb.mono (Nat.le_succ rb)).setCell (p := ⟨rb, 1, none⟩) (Nat.le_refl _) _⟩
  · have := hb.size
    simp [World.setCell]; omega
  · rw [← boolsL_succ]
    exact ownsRow_setCell_below ho (a := ⟨rb, 1, none⟩) (Nat.lt_succ_self _) v'

section
variable {r : Int → Int → Bool} {f : Nat → Int} {n : Nat}
theorem outS_sort {T : Nat → Nat → Bool} (hS : Swo T) (hT : ∀ i j, i < n → j < n → T i j = r (f i) (f j)) (hn : n < 18446744073709551616) {w w' : World} {e : Ending} (h : OutP w n f (sortP T n) e w') : OutS r w n f e w' :=
  ⟨sortP T n, sortP_perm T n, sortP_count T n, fun i j hij hj => by
    have h1 := sortP_sorted hS hn hij hj
    rw [hT _ _ (sortP_in T hj) (sortP_in T (Nat.lt_trans hij hj))] at h1
    exact h1, h⟩
theorem outS_stable {T : Nat → Nat → Bool} (hS : Swo T) (hT : ∀ i j, i < n → j < n → T i j = r (f i) (f j)) {w w' : World} {e : Ending} (h : OutP w n f (stable (tabM T) n fun k => k) e w') : OutS r w n f e w' :=
  ⟨_, stable_perm T n, stable_count T n, fun i j hij hj => by
    have h1 := stable_no hS hij hj
    have hp := (stable_perm T n).1
    rw [hT _ _ (hp _ hj) (hp _ (Nat.lt_trans hij hj))] at h1
    exact h1, h⟩
/-- By the relation 'less' a list in order is the sorted list. -/
theorem outS_srt (hr : ∀ i j, i < n → j < n → r (f i) (f j) = decide (f i < f j)) {w w' : World} {e : Ending} (h : OutS r w n f e w') : ∃ A c g, e = .returned (.slice A n c) ∧ Rd w' w'.heap.size (Value.int .i64) A n g ∧ Below w.heap.size w w' ∧ ∀ k, k < n → g k = srtI f n k := by
  obtain ⟨p, hp, hc, hs, v, rfl, ⟨G, hG, hF⟩, hb⟩ := h
  obtain ⟨A, c, rfl, hrd⟩ := hG.rd (enc := Value.int .i64) (f := fun k => f (p k)) hF
  refine ⟨A, c, fun k => f (p k), rfl, hrd, hb, srtF_unique lin_leI 0 (g := fun k => f (p k)) (fun i j hij hj => ?_) (fun x => hc (fun k => decide (f k = x)))⟩
  have h1 := hs i j hij hj
  rw [hr _ _ (hp.1 j hj) (hp.1 i (by omega))] at h1
  have := of_decide_eq_false h1
  exact decide_eq_true (show f (p i) ≤ f (p j) by omega)
theorem weak_less (hr : ∀ i j, i < n → j < n → r (f i) (f j) = decide (f i < f j)) : WeakP r f n := fun i hi => by
  refine ⟨by rw [hr i i hi hi]; simp, fun j hj => ⟨by rw [hr i j hi hj, hr j i hj hi]; simp; omega, fun k hk => ?_⟩⟩
  unfold weak3
  rw [hr i j hi hj, hr j k hj hk, hr i k hi hk, hr j i hj hi, hr k j hk hj, hr k i hk hi]
  by_cases a : f i < f j <;> by_cases b : f j < f k <;> by_cases c : f j < f i <;> by_cases d : f k < f j <;> simp [a, b, c, d] <;> omega
end

/-- The relation 'less' of the numbers below S, row for row. -/
def lessB (S t : Nat) : Bool := decide (t / S < t % S)
theorem lessB_at {S a b : Nat} (hb : b < S) : lessB S (a * S + b) = decide (a < b) := by
  unfold lessB
  have h1 : (a * S + b) / S = a := by rw [Nat.mul_comm, Nat.mul_add_div (by omega), Nat.div_eq_of_lt hb, Nat.add_zero]
  have h2 : (a * S + b) % S = b := by rw [Nat.mul_comm, Nat.mul_add_mod, Nat.mod_eq_of_lt hb]
  rw [h1, h2]
theorem relB_less {S : Nat} {x y : Int} (hx : 0 ≤ x ∧ x < S) (hy : 0 ≤ y ∧ y < S) : relB (S : Int) (S * S) (lessB S) x y = decide (x < y) := by
  obtain ⟨a, rfl⟩ := Int.eq_ofNat_of_zero_le hx.1
  obtain ⟨b, rfl⟩ := Int.eq_ofNat_of_zero_le hy.1
  have ha : a < S := by omega
  have hb : b < S := by omega
  have hlt : a * S + b < S * S := by
    have h1 : (a + 1) * S ≤ S * S := Nat.mul_le_mul_right _ (by omega)
    have h2 : (a + 1) * S = a * S + S := Nat.succ_mul _ _
    omega
  have e : ((a : Int) * (S : Int) + (b : Int)) = ((a * S + b : Nat) : Int) := by push_cast; rfl
  rw [relB_true (by rw [e]; omega), e, Int.toNat_natCast, lessB_at hb]
  by_cases c : a < b
  · rw [decide_eq_true c, decide_eq_true (by omega)]
  · rw [decide_eq_false c, decide_eq_false (by omega)]

theorem infoBoolS : (Try.prog.info? 4).map (fun i => (i.zero, i.size, i.bytes)) = some (some (.bool false), 1, 1) := by kernel_rfl

set_option maxRecDepth 100000 in
set_option maxHeartbeats 4000000 in
theorem fnSortByNumbersw (w : World) (A : Option Addr) (n c : Nat) (f : Nat → Int) (hf64 : ∀ i, I64 (f i)) (hl : n ≤ c) (hre : c * 8 ≤ 140737488351232) (hrd : Rd w w.heap.size (Value.int .i64) A n f) (size : Int) (hs64 : I64 size) :
    Calls Try.prog 5 #[.slice A n c, .int .i64 size] w fun e w' => e = .returned (.bool true) ∧ Below w.heap.size w w' := by
  have hn : n * 8 ≤ 140737488351232 := by omega
  have hnn : n ≤ 4611686018427387903 := by omega
  by_cases h1 : size < 1
  · clear hrd
    go_enter Try.func5, Try.ntmps5
    go_wp2_with fail
    go_ret
    exact ⟨rfl, Below.refl _ _⟩
  by_cases h2 : size > 1000
  · clear hrd
    go_enter Try.func5, Try.ntmps5
    go_wp2_with fail
    go_ret
    exact ⟨rfl, Below.refl _ _⟩
  obtain ⟨S, rfl⟩ : ∃ S : Nat, size = (S : Int) := ⟨size.toNat, by omega⟩
  have hS1 : 1 ≤ S ∧ S ≤ 1000 := by omega
  have hSS : S * S ≤ 1000 * 1000 := Nat.mul_le_mul (by omega) (by omega)
  obtain ⟨i0, hi0, hz0, hz1, hz2⟩ := info_parts infoBoolS
  have HR := Lib.hid (fun w' (hb : Below w.heap.size w w') => hrd.keep hb (Nat.le_refl _))
  have HSi := Lib.hid (fun w' (hb : Below w.heap.size w w') => implSortInts A n c w.heap.size f w' hn (hrd.keep hb (Nat.le_refl _)))
  have hI64 : I64 (S : Int) := hs64
  have HA : Hid ((∀ i, i < n → 0 ≤ f i ∧ f i < (S : Int)) → ∀ w' rb A1 c1 B1, RInv w rb (S : Int) A1 (S * S) c1 B1 (lessB S) w' → Calls Try.prog 22 #[.slice A n c, .agg #[.int .i64 (S : Int), .slice A1 (S * S) c1]] w' (fun e w2 => ∃ A c g, e = .returned (.slice A n c) ∧ Rd w2 w2.heap.size (Value.int .i64) A n g ∧ Below w'.heap.size w' w2 ∧ ∀ k, k < n → g k = srtI f n k)) := Lib.hid (fun hin w' rb A1 c1 B1 hi =>
    (implSortByOrder (S : Int) A1 (S * S) c1 B1 (lessB S) A n c w.heap.size f w' hI64 (by omega) hi.2.2.2.2.1 hi.2.2.2.2.2 hf64 hn hi.1.size (hrd.keep hi.1 (Nat.le_refl _)) (weak_less fun i j a b => relB_less (hin i a) (hin j b))).mono fun e w2 h => outS_srt (fun i j a b => relB_less (hin i a) (hin j b)) h)
  have HB : Hid ((∀ i, i < n → 0 ≤ f i ∧ f i < (S : Int)) → ∀ w' rb A1 c1 B1, RInv w rb (S : Int) A1 (S * S) c1 B1 (lessB S) w' → Calls Try.prog 23 #[.slice A n c, .agg #[.int .i64 (S : Int), .slice A1 (S * S) c1]] w' (fun e w2 => ∃ A c g, e = .returned (.slice A n c) ∧ Rd w2 w2.heap.size (Value.int .i64) A n g ∧ Below w'.heap.size w' w2 ∧ ∀ k, k < n → g k = srtI f n k)) := Lib.hid (fun hin w' rb A1 c1 B1 hi => by
    obtain ⟨T, hS, hT⟩ := swo_of_weak (weak_less (r := relB (S : Int) (S * S) (lessB S)) fun i j a b => relB_less (hin i a) (hin j b))
    exact (implSortSortByOrder (S : Int) A1 (S * S) c1 B1 (lessB S) A n c w.heap.size f T w' hI64 (by omega) hi.2.2.2.2.1 hi.2.2.2.2.2 hf64 hn hi.1.size (hrd.keep hi.1 (Nat.le_refl _)) hT).mono fun e w2 h => outS_srt (fun i j a b => relB_less (hin i a) (hin j b)) (outS_sort hS hT (by omega) h))
  have HC : Hid ((∀ i, i < n → 0 ≤ f i ∧ f i < (S : Int)) → ∀ w' rb A1 c1 B1, RInv w rb (S : Int) A1 (S * S) c1 B1 (lessB S) w' → Calls Try.prog 24 #[.slice A n c, .agg #[.int .i64 (S : Int), .slice A1 (S * S) c1]] w' (fun e w2 => ∃ A c g, e = .returned (.slice A n c) ∧ Rd w2 w2.heap.size (Value.int .i64) A n g ∧ Below w'.heap.size w' w2 ∧ ∀ k, k < n → g k = srtI f n k)) := Lib.hid (fun hin w' rb A1 c1 B1 hi => by
    obtain ⟨T, hS, hT⟩ := swo_of_weak (weak_less (r := relB (S : Int) (S * S) (lessB S)) fun i j a b => relB_less (hin i a) (hin j b))
    exact (implStableByOrder (S : Int) A1 (S * S) c1 B1 (lessB S) A n c w.heap.size f T w' hI64 (by omega) hi.2.2.2.2.1 hi.2.2.2.2.2 hf64 hn hi.1.size (hrd.keep hi.1 (Nat.le_refl _)) hT).mono fun e w2 h => outS_srt (fun i j a b => relB_less (hin i a) (hin j b)) (outS_stable hS hT h))
  have HD : Hid ((∀ i, i < n → 0 ≤ f i ∧ f i < (S : Int)) → ∀ w' rb A1 c1 B1, RInv w rb (S : Int) A1 (S * S) c1 B1 (lessB S) w' → Calls Try.prog 25 #[.slice A n c, .agg #[.int .i64 (S : Int), .slice A1 (S * S) c1]] w' (fun e w2 => ∃ A c g, e = .returned (.slice A n c) ∧ Rd w2 w2.heap.size (Value.int .i64) A n g ∧ Below w'.heap.size w' w2 ∧ ∀ k, k < n → g k = srtI f n k)) := Lib.hid (fun hin w' rb A1 c1 B1 hi => by
    obtain ⟨T, hS, hT⟩ := swo_of_weak (weak_less (r := relB (S : Int) (S * S) (lessB S)) fun i j a b => relB_less (hin i a) (hin j b))
    exact (implSortStableByOrder (S : Int) A1 (S * S) c1 B1 (lessB S) A n c w.heap.size f T w' hI64 (by omega) hi.2.2.2.2.1 hi.2.2.2.2.2 hf64 hn hi.1.size (hrd.keep hi.1 (Nat.le_refl _)) hT).mono fun e w2 h => outS_srt (fun i j a b => relB_less (hin i a) (hin j b)) (outS_stable hS hT h))
  have HSS := Lib.hid hSS
  clear hrd hf64 hre hl hs64 hI64 hSS
  have hG0 : GrowB w.heap.size (S : Int) (lessB S) 0 (.slice none 0 0) (w.alloc (.cells #[.int .i64 (S : Int), .slice none 0 0] 33)) :=
    ⟨by simp, by simp [go_sem], by simp [go_sem], by simp [go_sem], World.ownsRow_nil _ _ _ _⟩
  have H0 : Hid (GrowB w.heap.size (S : Int) (lessB S) 0 (.slice none 0 0) (w.alloc (.cells #[.int .i64 (S : Int), .slice none 0 0] 33)) ∧ Below w.heap.size w (w.alloc (.cells #[.int .i64 (S : Int), .slice none 0 0] 33))) := Lib.hid ⟨hG0, (Below.refl _ _).alloc (Nat.le_refl _) _⟩
  clear hG0
  go_enter Try.func5, Try.ntmps5
  go_wp2_with fail
  go_loopg [6] S (fun q va wr => ∃ (a : Nat) (v : Value), a ≤ S ∧ S - a ≤ q ∧ va = .int .i64 a ∧ Hid (GrowB w.heap.size (S : Int) (lessB S) (a * S) v wr ∧ Below w.heap.size w wr))
  case atStart => exact ⟨0, _, Nat.zero_le _, by omega, rfl, by rw [Nat.zero_mul]; exact H0.out.1, H0.out.2⟩
  case round =>
    clear H0
    obtain ⟨a, v, ha, hq, rfl, HI⟩ := hrel
    by_cases hlt : a < S
    · have hlz : (a : Int) < (S : Int) := by omega
      go_wp2_with fail
      go_loopg [7] S (fun q vb wr => ∃ (b : Nat) (v : Value), b ≤ S ∧ S - b ≤ q ∧ vb = .int .i64 b ∧ Hid (GrowB w.heap.size (S : Int) (lessB S) (a * S + b) v wr ∧ Below w.heap.size w wr))
      case atStart => exact ⟨0, v, Nat.zero_le _, by omega, rfl, HI.out⟩
      case round =>
        clear HI
        obtain ⟨b, v, hb, hq2, rfl, HK⟩ := hrel
        by_cases hbl : b < S
        · have hbz : (b : Int) < (S : Int) := by omega
          obtain ⟨y0, y1, y2, y3, y4⟩ := id HK.out.1
          have hkk : a * S + b + 1 ≤ 1000 * 1000 := by
            have h3 : (a + 1) * S ≤ S * S := Nat.mul_le_mul_right _ (by omega)
            have h4 : (a + 1) * S = a * S + S := Nat.succ_mul _ _
            have := HSS.out
            omega
          have hd : decide (a < b) = lessB S (a * S + b) := (lessB_at hbl).symm
          have HKk := Lib.hid hkk
          have HO := Lib.hid y4
          clear hkk y4
          generalize hgx : lessB S (a * S + b) = gx at hd
          have HGx := Lib.hid hgx; clear hgx
          generalize hkx : a * S + b = kx at *
          have HKx := Lib.hid hkx; clear hkx
          go_wp2_with (at_builtin; refine wpList_append_own _ rfl _ _ 31 rfl (w.heap.size + 1) 4 i0 (.bool false) 1 1 Try.underlying31 hi0 hz0 hz1 hz2 rfl (by decide) _ _ _ rfl (HO.out.alloc _) ⟨wr.heap.size, 0, none⟩ 1 1 [.bool gx] rfl rfl ?c1 ?c2 ?c3 ?c4 ?c5 ?_)
          case c1 => exact cell_one_new _ _ _ rfl
          case c2 => simp [Value.oneCell']
          case c3 => have := HKk.out; simp only [maxLen]; omega
          case c4 => have := HKk.out; omega
          case c5 => simp; omega
          intro v' W2 ho2 hg2 _
          obtain ⟨gv, cv, hv', _⟩ := ho2.form (by omega)
          rw [hv'] at ho2 ⊢
          clear hv'
          obtain ⟨⟨z0, z1⟩, hA, hB⟩ := HK.out.1.step ((Below.refl _ _).alloc (Nat.le_refl _) _) (by rw [HGx.out]; exact ho2) hg2
          have HN := Lib.hid (And.intro hA (HK.out.2.trans hB))
          clear ho2 hg2 hA hB
          go_wp2_with fail
          go_roundg (S - (b + 1))
          case measure => omega
          case rel => exact ⟨b + 1, _, hbl, Nat.le_refl _, by go_num, by rw [← Nat.add_assoc, HKx.out]; exact HN.out⟩
        · have hbz : ¬ ((b : Int) < (S : Int)) := by omega
          obtain rfl : b = S := by omega
          go_wp2_with fail
          go_roundg (b - (a + 1))
          case measure => omega
          case rel => exact ⟨a + 1, v, hlt, Nat.le_refl _, by go_num, by rw [Nat.succ_mul]; exact HK.out⟩
    · have hlz : ¬ ((a : Int) < (S : Int)) := by omega
      obtain rfl : a = S := by omega
      obtain ⟨y0, y1, y2, y3, y4⟩ := id HI.out.1
      obtain ⟨F, hF, hx⟩ := OwnRow.of_own y4
      obtain ⟨A1, c1, rfl, hr1⟩ := hF.rd (enc := Value.bool) (f := lessB a) (fun i hi => hx i _ (boolsL_get (by omega)))
      have HRI : Hid (RInv w w.heap.size (a : Int) A1 (a * a) c1 wr.heap.size (lessB a) wr) := Lib.hid ⟨HI.out.2, y0, y1, y2, Nat.le_refl _, hr1⟩
      clear y0 y1 y2 y3 y4 hF hx hr1 HI
      obtain ⟨wo, rfl⟩ : ∃ wo : World, wo = wr := ⟨_, rfl⟩
      go_wp2_with fail
      go_loopg [39] n (fun q vi wr => ∃ k : Nat, k ≤ n ∧ n - k ≤ q ∧ vi = .int .i64 k ∧ wo = wr ∧ Hid (∀ i, i < k → 0 ≤ f i ∧ f i < (a : Int)))
      case atStart => exact ⟨0, Nat.zero_le _, by omega, rfl, rfl, fun i h => absurd h (Nat.not_lt_zero _)⟩
      case round =>
        obtain ⟨k, hk, hq3, rfl, rfl, HK⟩ := hrel
        by_cases hkn : k < n
        · have hkz : (k : Int) < (n : Int) := by omega
          obtain ⟨b, off, rfl, _, hc⟩ := (HR.out _ HRI.out.1).at hkn
          generalize hy : f k = y at hc
          have HY := Lib.hid hy; clear hy
          by_cases hy0 : y < 0
          · go_wp2_with fail
            go_ret
            exact ⟨rfl, HRI.out.1⟩
          · by_cases hyS : y ≥ (a : Int)
            · go_wp2_with fail
              go_ret
              exact ⟨rfl, HRI.out.1⟩
            · go_wp2_with fail
              go_roundg (n - (k + 1))
              case measure => omega
              case rel => exact ⟨k + 1, hkn, Nat.le_refl _, by go_num, rfl, fun i hi => by
                rcases Nat.lt_succ_iff_lt_or_eq.1 hi with h | h
                · exact HK.out i h
                · subst h; rw [HY.out]; omega⟩
        · have hkz : ¬ ((k : Int) < (n : Int)) := by omega
          have HIn : Hid (∀ i, i < n → 0 ≤ f i ∧ f i < (a : Int)) := Lib.hid (fun i hi => HK.out i (by omega))
          clear HK
          go_wp2_with fail
          refine (HSi.out _ HRI.out.1).mono ?_
          intro e w2 h2
          obtain ⟨Ay, cy, rfl, hry, hb2⟩ := h2.rd
          have HY := Lib.hid (And.intro hry (Nat.le_refl w2.heap.size))
          have HRI := Lib.hid (HRI.out.step hb2)
          clear hry hb2 h2
          have hne : ((n : Int) == (n : Int)) = true := by simp
          have p0 := HRI.out.2.2.1
          have p1 := HRI.out.2.2.2.1
          have HC1 := Lib.hid (HA.out HIn.out w2 _ A1 c1 _ HRI.out)
          go_wp2_with fail
          refine HC1.out.mono ?_
          rintro e w10 ⟨A10, c10, g10, rfl, hr, hb, hk⟩
          have HE := Lib.hid (sameInts n n c10 cy A10 Ay _ _ w10 _ _ hnn hnn hr (HY.out.1.keep hb HY.out.2))
          have HK := Lib.hid hk
          have HY := Lib.hid (And.intro (HY.out.1.keep hb HY.out.2) (Nat.le_trans HY.out.2 hb.size))
          have HRI := Lib.hid (HRI.out.step hb)
          clear hr hb hk HC1 p0 p1
          go_wp2_with fail
          refine HE.out.mono ?_
          rintro e w11 ⟨b, rfl, hb, q, rfl⟩
          obtain rfl : b = true := hb.2 ⟨rfl, fun k hk => HK.out k hk⟩
          have HY := Lib.hid (And.intro (HY.out.1.drewN q) HY.out.2)
          have HRI := Lib.hid (HRI.out.drewN q)
          clear hb HE HK
          have p0 := HRI.out.2.2.1
          have p1 := HRI.out.2.2.2.1
          have HC1 := Lib.hid (HB.out HIn.out (w10.drewN q) _ A1 c1 _ HRI.out)
          go_wp2_with fail
          refine HC1.out.mono ?_
          rintro e w12 ⟨A12, c12, g12, rfl, hr, hb, hk⟩
          have HE := Lib.hid (sameInts n n c12 cy A12 Ay _ _ w12 _ _ hnn hnn hr (HY.out.1.keep hb HY.out.2))
          have HK := Lib.hid hk
          have HY := Lib.hid (And.intro (HY.out.1.keep hb HY.out.2) (Nat.le_trans HY.out.2 hb.size))
          have HRI := Lib.hid (HRI.out.step hb)
          clear hr hb hk HC1 p0 p1
          go_wp2_with fail
          refine HE.out.mono ?_
          rintro e w13 ⟨b, rfl, hb, q, rfl⟩
          obtain rfl : b = true := hb.2 ⟨rfl, fun k hk => HK.out k hk⟩
          have HY := Lib.hid (And.intro (HY.out.1.drewN q) HY.out.2)
          have HRI := Lib.hid (HRI.out.drewN q)
          clear hb HE HK
          have p0 := HRI.out.2.2.1
          have p1 := HRI.out.2.2.2.1
          have HC1 := Lib.hid (HC.out HIn.out (w12.drewN q) _ A1 c1 _ HRI.out)
          go_wp2_with fail
          refine HC1.out.mono ?_
          rintro e w14 ⟨A14, c14, g14, rfl, hr, hb, hk⟩
          have HE := Lib.hid (sameInts n n c14 cy A14 Ay _ _ w14 _ _ hnn hnn hr (HY.out.1.keep hb HY.out.2))
          have HK := Lib.hid hk
          have HY := Lib.hid (And.intro (HY.out.1.keep hb HY.out.2) (Nat.le_trans HY.out.2 hb.size))
          have HRI := Lib.hid (HRI.out.step hb)
          clear hr hb hk HC1 p0 p1
          go_wp2_with fail
          refine HE.out.mono ?_
          rintro e w15 ⟨b, rfl, hb, q, rfl⟩
          obtain rfl : b = true := hb.2 ⟨rfl, fun k hk => HK.out k hk⟩
          have HY := Lib.hid (And.intro (HY.out.1.drewN q) HY.out.2)
          have HRI := Lib.hid (HRI.out.drewN q)
          clear hb HE HK
          have p0 := HRI.out.2.2.1
          have p1 := HRI.out.2.2.2.1
          have HC1 := Lib.hid (HD.out HIn.out (w14.drewN q) _ A1 c1 _ HRI.out)
          go_wp2_with fail
          refine HC1.out.mono ?_
          rintro e w16 ⟨A16, c16, g16, rfl, hr, hb, hk⟩
          have HE := Lib.hid (sameInts n n c16 cy A16 Ay _ _ w16 _ _ hnn hnn hr (HY.out.1.keep hb HY.out.2))
          have HK := Lib.hid hk
          have HY := Lib.hid (And.intro (HY.out.1.keep hb HY.out.2) (Nat.le_trans HY.out.2 hb.size))
          have HRI := Lib.hid (HRI.out.step hb)
          clear hr hb hk HC1 p0 p1
          go_wp2_with fail
          refine HE.out.mono ?_
          rintro e w17 ⟨b, rfl, hb, q, rfl⟩
          obtain rfl : b = true := hb.2 ⟨rfl, fun k hk => HK.out k hk⟩
          have HY := Lib.hid (And.intro (HY.out.1.drewN q) HY.out.2)
          have HRI := Lib.hid (HRI.out.drewN q)
          clear hb HE HK
          go_wp2_with fail
          go_ret
          exact ⟨rfl, HRI.out.1⟩
end Go.Proofs.Ytjammaglboehcaa
