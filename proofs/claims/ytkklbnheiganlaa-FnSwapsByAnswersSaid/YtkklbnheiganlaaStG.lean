/-
  The walks of functions that build a list of items: toItems, numbered, turned; and of ascendingKeys.
-/
import Derived.Test.YtkklbnheiganlaaItmS
import Derived.Test.YtkklbnheiganlaaIsI
namespace Go.Proofs.Ytkklbnheiganlaa
open Go.RowKit Go.Proofs
set_option linter.unusedVariables false

/-- A list of items of the call's own. -/
def NewI (w : World) (n : Nat) (f : Nat → Int × Int) (e : Ending) (w' : World) : Prop :=
  ∃ A c, e = .returned (.slice A n c) ∧ RdI w' w'.heap.size A n f ∧ Below w.heap.size w w'

/-- The cells of the first k items. -/
def cellsL (f : Nat → Int × Int) (k : Nat) : List Value := (List.range (k * 2)).map (cellI f)
theorem cellsL_succ (f : Nat → Int × Int) (k : Nat) : cellsL f k ++ [.int .i64 (f k).1, .int .i64 (f k).2] = cellsL f (k + 1) := by
  unfold cellsL
  rw [show (k + 1) * 2 = k * 2 + 1 + 1 by omega, List.range_succ, List.range_succ]
  simp [cellI_even, cellI_odd]
theorem cellsL_get {f : Nat → Int × Int} {k i : Nat} (h : i < k * 2) : (cellsL f k)[i]? = some (cellI f i) := by
  unfold cellsL; rw [List.getElem?_map, List.getElem?_range h]; rfl

theorem cell_two_new (w : World) (x y : Value) (t : TypeId) {g : Nat} (hg : g = w.heap.size) : ∀ j u, [x, y][j]? = some u → (w.alloc (.cells #[x, y] t)).cell? ((⟨g, 0, none⟩ : Addr).add j) = some u := by
  intro j u hj
  subst hg
  rw [Go.WideShapes.add_plain, Nat.zero_add, World.cell?_alloc_at _ _ _ _ rfl]
  match j, hj with
  | 0, hj => exact hj
  | 1, hj => exact hj
  | j + 2, hj => simp at hj

/-- The state of such a loop. -/
def GrowI (w : World) (f : Nat → Int × Int) (v : Value) (k : Nat) (wr : World) : Prop := wr.ownsRow w.heap.size 59 2 v k (cellsL f k) ∧ Below w.heap.size w wr
theorem GrowI.start (w : World) (f : Nat → Int × Int) : GrowI w f (.slice none 0 0) 0 w := ⟨World.ownsRow_nil _ _ _ _, Below.refl _ _⟩
theorem GrowI.step {w wr W w1 : World} {f : Nat → Int × Int} {v v1 : Value} {k : Nat} (h : GrowI w f v k wr) (hW : Below wr.heap.size wr W) (ho : w1.ownsRow w.heap.size 59 2 v1 (k + 1) (cellsL f k ++ [.int .i64 (f k).1, .int .i64 (f k).2])) (hg : W.grownBy w1 v.ownBlock) : GrowI w f v1 (k + 1) w1 := by
  refine ⟨by rw [← cellsL_succ]; exact ho, (h.2.trans (hW.mono h.2.size)).grown hg (Nat.le_trans h.2.size hW.size) (fun k hk => (h.1.lt k hk).1)⟩
theorem GrowI.done {w wr : World} {f : Nat → Int × Int} {v : Value} {k : Nat} (h : GrowI w f v k wr) : ∃ A c, v = .slice A k c ∧ RdI wr wr.heap.size A k f := by
  obtain ⟨F, hF, hx⟩ := OwnRow.of_own h.1
  have hFc : ∀ i, i < k * 2 → F i = cellI f i := fun i hi => hx i _ (cellsL_get hi)
  rcases hF with ⟨rfl, rfl⟩ | ⟨g, cap, rfl, _, hnc, hr⟩
  · exact ⟨none, 0, rfl, RdI.none⟩
  · exact ⟨_, cap, rfl, rdI_of_row hr (by omega) (fun i hi => ⟨by rw [hFc _ (by omega), cellI_even], by rw [hFc _ (by omega), cellI_odd]⟩)⟩

set_option maxHeartbeats 1000000 in
theorem toItems (A : Option Addr) (n c B : Nat) (f : Nat → Int × Int) (w : World) (hn : n * 16 ≤ 140737488351232) (hB : B ≤ w.heap.size) (hrd : RdI w B A n f) :
    Calls Try.prog 28 #[.slice A n c] w (NewI w n f) := by
  obtain ⟨i0, hi0, hz0, hz1, hz2⟩ := info_parts infoItem
  have HR := Lib.hid (fun w' (hb : Below w.heap.size w w') => hrd.keep hb hB); clear hrd
  go_enter Try.func28, Try.ntmps28
  go_wp2_with fail
  go_loopw [3, 8] (fun v vi wr => ∃ k : Nat, k ≤ n ∧ vi = .int .i64 k ∧ Hid (GrowI w f v k wr)) (fun _ vi _ => n - (intOf vi).toNat)
  case atStart => exact ⟨0, Nat.zero_le _, rfl, GrowI.start w f⟩
  case round =>
    obtain ⟨k, hk, rfl, HI⟩ := hrel
    by_cases hlt : k < n
    · obtain ⟨b, off, rfl, _, hc1, hc2⟩ := (HR.out wr HI.out.2).at hlt
      have hbs := HI.out.2.size
      generalize hx : (f k).1 = x at hc1
      generalize hy : (f k).2 = y at hc2
      have HX := Lib.hid hx; have HY := Lib.hid hy; clear hx hy
      go_wp2_with (at_builtin; refine wpList_append_own _ rfl _ _ 24 rfl w.heap.size 59 i0 (.agg #[.int .i64 0, .int .i64 0]) 2 16 Try.underlying24 hi0 hz0 hz1 hz2 rfl (by decide) _ _ _ rfl ((HI.out.1.alloc _).alloc _) ⟨wr.heap.size + 1, 0, none⟩ 1 1 [.int .i64 x, .int .i64 y] rfl rfl ?c1 ?c2 ?c3 ?c4 ?c5 ?_)
      case c1 => exact cell_two_new _ _ _ _ (by simp)
      case c2 => simp [Value.oneCell']
      case c3 => simp only [maxLen]; omega
      case c4 => omega
      case c5 => simp; omega
      intro v1 w1 ho1 hg1 _
      rw [← HX.out, ← HY.out] at ho1
      have HG := Lib.hid (HI.out.step (((Below.refl _ _).alloc (Nat.le_refl _) _).alloc (by simp) _) ho1 hg1)
      clear ho1 hg1
      go_wp2_with fail
      go_roundw
      case rel => exact ⟨k + 1, hlt, by go_num, HG.out⟩
      case measure => simp [intOf]; omega
    · obtain rfl : k = n := by omega
      obtain ⟨A1, c1, rfl, hr1⟩ := HI.out.done
      have HB := Lib.hid (And.intro hr1 HI.out.2); clear hr1
      go_wp2_with fail
      go_ret
      exact ⟨A1, c1, rfl, HB.out.1, HB.out.2⟩


set_option maxHeartbeats 1000000 in
theorem turned (A : Option Addr) (n c B : Nat) (f : Nat → Int × Int) (w : World) (hn : n * 16 ≤ 140737488351232) (hB : B ≤ w.heap.size) (hrd : RdI w B A n f) :
    Calls Try.prog 34 #[.slice A n c] w (NewI w n (fun i => ((f i).2, (f i).1))) := by
  obtain ⟨i0, hi0, hz0, hz1, hz2⟩ := info_parts infoItem
  have HR := Lib.hid (fun w' (hb : Below w.heap.size w w') => hrd.keep hb hB); clear hrd
  go_enter Try.func34, Try.ntmps34
  go_wp2_with fail
  go_loopw [3, 8] (fun v vi wr => ∃ k : Nat, k ≤ n ∧ vi = .int .i64 k ∧ Hid (GrowI w (fun i => ((f i).2, (f i).1)) v k wr)) (fun _ vi _ => n - (intOf vi).toNat)
  case atStart => exact ⟨0, Nat.zero_le _, rfl, GrowI.start w _⟩
  case round =>
    obtain ⟨k, hk, rfl, HI⟩ := hrel
    by_cases hlt : k < n
    · obtain ⟨b, off, rfl, _, hc1, hc2⟩ := (HR.out wr HI.out.2).at hlt
      have hbs := HI.out.2.size
      generalize hx : (f k).1 = x at hc1
      generalize hy : (f k).2 = y at hc2
      have HX := Lib.hid hx; have HY := Lib.hid hy; clear hx hy
      go_wp2_with (at_builtin; refine wpList_append_own _ rfl _ _ 24 rfl w.heap.size 59 i0 (.agg #[.int .i64 0, .int .i64 0]) 2 16 Try.underlying24 hi0 hz0 hz1 hz2 rfl (by decide) _ _ _ rfl ((HI.out.1.alloc _).alloc _) ⟨wr.heap.size + 1, 0, none⟩ 1 1 [.int .i64 y, .int .i64 x] rfl rfl ?c1 ?c2 ?c3 ?c4 ?c5 ?_)
      case c1 => exact cell_two_new _ _ _ _ (by simp)
      case c2 => simp [Value.oneCell']
      case c3 => simp only [maxLen]; omega
      case c4 => omega
      case c5 => simp; omega
      intro v1 w1 ho1 hg1 _
      rw [← HX.out, ← HY.out] at ho1
      have HG := Lib.hid (HI.out.step (((Below.refl _ _).alloc (Nat.le_refl _) _).alloc (by simp) _) ho1 hg1)
      clear ho1 hg1
      go_wp2_with fail
      go_roundw
      case rel => exact ⟨k + 1, hlt, by go_num, HG.out⟩
      case measure => simp [intOf]; omega
    · obtain rfl : k = n := by omega
      obtain ⟨A1, c1, rfl, hr1⟩ := HI.out.done
      have HB := Lib.hid (And.intro hr1 HI.out.2); clear hr1
      go_wp2_with fail
      go_ret
      exact ⟨A1, c1, rfl, HB.out.1, HB.out.2⟩

set_option maxHeartbeats 1000000 in
theorem ascendingKeys (n c : Nat) (A : Option Addr) (f : Nat → Int × Int) (w : World) (B : Nat) (hn : n ≤ 4611686018427387903) (hrd : RdI w B A n f) :
    Calls Try.prog 29 #[.slice A n c] w (Tells (AscF (fun k => (f k).1) n) w) := by
  have HR := Lib.hid hrd; clear hrd
  go_enter Try.func29, Try.ntmps29
  go_wp2
  go_loopw [3] (fun vi wr => ∃ k q : Nat, 1 ≤ k ∧ (k ≤ n ∨ k = 1) ∧ vi = .int .i64 k ∧ wr = w.drewN q ∧ Hid (AscF (fun k => (f k).1) k)) (fun vi _ => n - (intOf vi).toNat)
  case atStart => exact ⟨1, 0, by omega, .inr rfl, rfl, rfl, fun i h1 h2 => absurd h2 (by omega)⟩
  case round =>
    obtain ⟨k, q, hk, hk2, rfl, rfl, HI⟩ := hrel
    by_cases hlt : k < n
    · obtain ⟨b, off, rfl, _, hc, _⟩ := HR.out.at (show k - 1 < n by omega)
      obtain ⟨b', off', h', _, hc', _⟩ := HR.out.at hlt
      simp only [Option.some.injEq, Addr.mk.injEq, and_true] at h'
      obtain ⟨rfl, rfl⟩ := h'
      have hz : (0 : Int) ≤ (k : Int) - 1 := by omega
      have hzl : (k : Int) - 1 < (n : Int) := by omega
      have hkl : (k : Int) < (n : Int) := by omega
      have hkn : ((k : Int) - 1).toNat = k - 1 := by omega
      have hwr : IntKind.i64.wrap ((k : Int) - 1) = (k : Int) - 1 := IntWalk.i64_in _ (by omega)
      generalize hx : (f (k - 1)).1 = x at hc
      generalize hy : (f k).1 = y at hc'
      have HX := Lib.hid hx; have HY := Lib.hid hy; clear hx hy
      by_cases hlt2 : y < x
      · go_wp2
        go_quiet (fail)
        go_wp2
        go_ret
        exact ⟨false, rfl, ⟨(fun h => by cases h), (fun h => by have := h k hk hlt; dsimp only at this; rw [HX.out, HY.out] at this; omega)⟩, _, World.drewN_drewN _ _ _⟩
      · go_wp2
        go_quiet (fail)
        go_wp2
        go_roundw
        case rel => exact ⟨k + 1, _, by omega, .inl hlt, by go_num, rfl, fun i a b => by
          rcases Nat.lt_succ_iff_lt_or_eq.1 b with h | h
          · exact HI.out i a h
          · rw [h]; dsimp only; rw [HX.out, HY.out]; omega⟩
        case measure => simp [intOf]; omega
    · go_wp2
      go_ret
      exact ⟨true, rfl, ⟨fun _ => fun i a b => HI.out i a (by omega), fun _ => rfl⟩, _, rfl⟩
end Go.Proofs.Ytkklbnheiganlaa
