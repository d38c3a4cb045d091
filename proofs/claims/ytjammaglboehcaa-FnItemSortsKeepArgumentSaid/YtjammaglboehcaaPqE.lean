/-
  The walks of countItem, sameElements, keysOf.
-/
import Derived.Test.YtjammaglboehcaaSame
import Derived.Test.YtjammaglboehcaaStC
import Derived.Test.YtjammaglboehcaaStG
import Derived.Deep.RegionHeld3
import Derived.Deep.LoopGhost
namespace Go.Proofs.Ytjammaglboehcaa
open Go.RowKit Go.Proofs
set_option linter.unusedVariables false



/-- A list of numbers of the call's own. -/
def NewN (w : World) (n : Nat) (f : Nat → Int) (e : Ending) (w' : World) : Prop :=
  ∃ A c, e = .returned (.slice A n c) ∧ Rd w' w'.heap.size (Value.int .i64) A n f ∧ Below w.heap.size w w'
def intsL (f : Nat → Int) (k : Nat) : List Value := (List.range k).map (fun i => .int .i64 (f i))
theorem intsL_succ (f : Nat → Int) (k : Nat) : intsL f k ++ [.int .i64 (f k)] = intsL f (k + 1) := by
  unfold intsL; rw [List.range_succ]; simp
theorem intsL_get {f : Nat → Int} {k i : Nat} (h : i < k) : (intsL f k)[i]? = some (.int .i64 (f i)) := by
  unfold intsL; rw [List.getElem?_map, List.getElem?_range h]; rfl
theorem cell_one_new (w : World) (x : Value) (t : TypeId) {g : Nat} (hg : g = w.heap.size) : ∀ j u, [x][j]? = some u → (w.alloc (.cells #[x] t)).cell? ((⟨g, 0, none⟩ : Addr).add j) = some u := by
  intro j u hj
  subst hg
  rw [Go.WideShapes.add_plain, Nat.zero_add, World.cell?_alloc_at _ _ _ _ rfl]
  match j, hj with
  | 0, hj => exact hj
  | j + 1, hj => simp at hj
/-- The state of a loop that builds such a list. -/
def GrowN (w : World) (f : Nat → Int) (v : Value) (k : Nat) (wr : World) : Prop := wr.ownsRow w.heap.size 3 1 v k (intsL f k) ∧ Below w.heap.size w wr
theorem GrowN.start (w : World) (f : Nat → Int) : GrowN w f (.slice none 0 0) 0 w := ⟨World.ownsRow_nil _ _ _ _, Below.refl _ _⟩
theorem GrowN.step {w wr W w1 : World} {f : Nat → Int} {v v1 : Value} {k : Nat} (h : GrowN w f v k wr) (hW : Below wr.heap.size wr W) (ho : w1.ownsRow w.heap.size 3 1 v1 (k + 1) (intsL f k ++ [.int .i64 (f k)])) (hg : W.grownBy w1 v.ownBlock) : GrowN w f v1 (k + 1) w1 :=
  ⟨by rw [← intsL_succ]; exact ho, (h.2.trans (hW.mono h.2.size)).grown hg (Nat.le_trans h.2.size hW.size) (fun k hk => (h.1.lt k hk).1)⟩
theorem GrowN.done {w wr : World} {f : Nat → Int} {v : Value} {k : Nat} (h : GrowN w f v k wr) : ∃ A c, v = .slice A k c ∧ Rd wr wr.heap.size (Value.int .i64) A k f := by
  obtain ⟨F, hF, hx⟩ := OwnRow.of_own h.1
  exact hF.rd (enc := Value.int .i64) (f := f) (fun i hi => hx i _ (intsL_get hi))

theorem infoIntK : (Try.prog.info? 3).map (fun i => (i.zero, i.size, i.bytes)) = some (some (.int .i64 0), 1, 8) := by kernel_rfl
set_option maxHeartbeats 1000000 in
theorem keysOf (A : Option Addr) (n c B : Nat) (f : Nat → Int × Int) (w : World) (hn : n * 16 ≤ 140737488351232) (hB : B ≤ w.heap.size) (hrd : RdI w B A n f) :
    Calls Try.prog 10 #[.slice A n c] w (NewN w n (fun i => (f i).1)) := by
  obtain ⟨i0, hi0, hz0, hz1, hz2⟩ := info_parts infoIntK
  have HR := Lib.hid (fun w' (hb : Below w.heap.size w w') => hrd.keep hb hB); clear hrd
  go_enter Try.func10, Try.ntmps10
  go_wp2_with fail
  go_loopw [3, 8] (fun v vi wr => ∃ k : Nat, k ≤ n ∧ vi = .int .i64 k ∧ Hid (GrowN w (fun i => (f i).1) v k wr)) (fun _ vi _ => n - (intOf vi).toNat)
  case atStart => exact ⟨0, Nat.zero_le _, rfl, GrowN.start w _⟩
  case round =>
    obtain ⟨k, hk, rfl, HI⟩ := hrel
    by_cases hlt : k < n
    · obtain ⟨b, off, rfl, _, hc1, hc2⟩ := (HR.out wr HI.out.2).at hlt
      have hbs := HI.out.2.size
      generalize hx : (f k).1 = x at hc1
      generalize hy : (f k).2 = y at hc2
      have HX := Lib.hid hx; clear hx hy
      go_wp2_with (at_builtin; refine wpList_append_own _ rfl _ _ 25 rfl w.heap.size 3 i0 (.int .i64 0) 1 8 Try.underlying25 hi0 hz0 hz1 hz2 rfl (by decide) _ _ _ rfl ((HI.out.1.alloc _).alloc _) ⟨wr.heap.size + 1, 0, none⟩ 1 1 [.int .i64 x] rfl rfl ?c1 ?c2 ?c3 ?c4 ?c5 ?_)
      case c1 => exact cell_one_new _ _ _ (by simp)
      case c2 => simp [Value.oneCell']
      case c3 => simp only [maxLen]; omega
      case c4 => omega
      case c5 => simp; omega
      intro v1 w1 ho1 hg1 _
      have HG := Lib.hid (HI.out.step (((Below.refl _ _).alloc (Nat.le_refl _) _).alloc (by simp) _) (by rw [HX.out]; exact ho1) hg1)
      clear ho1 hg1
      go_wp2_with fail
      go_roundw
      case rel => exact ⟨k + 1, hlt, by go_num, HG.out⟩
      case measure => simp [intOf]; omega
    · obtain rfl : k = n := by omega
      obtain ⟨A1, c1, rfl, hr1⟩ := HI.out.done
      have HB := Lib.hid (And.intro hr1 HI.out.2); clear hr1
      go_wp2_with fail
      go_ret
      exact ⟨A1, c1, rfl, HB.out.1, HB.out.2⟩
end Go.Proofs.Ytjammaglboehcaa
