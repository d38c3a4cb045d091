/-
  The walks of countItem, sameElements, keysOf.
-/
import Derived.Test.YtkklbnheiganlaaSame
import Derived.Test.YtkklbnheiganlaaStC
import Derived.Test.YtkklbnheiganlaaStG
import Derived.Deep.RegionHeld3
import Derived.Deep.LoopGhost
namespace Go.Proofs.Ytkklbnheiganlaa
open Go.RowKit Go.Proofs
set_option linter.unusedVariables false

set_option maxHeartbeats 2000000 in
theorem countItem (A : Option Addr) (n c B : Nat) (f : Nat → Int × Int) (x : Int × Int) (w : World) (hn : n ≤ 4611686018427387903) (hB : B ≤ w.heap.size) (hrd : RdI w B A n f) :
    Calls Try.prog 52 #[.slice A n c, .agg #[.int .i64 x.1, .int .i64 x.2]] w fun e w' => e = .returned (.int .i64 (cnt (fun k => decide (f k = x)) n)) ∧ Below w.heap.size w w' := by
  have HR := Lib.hid (fun w' (hb : Below w.heap.size w w') => hrd.keep hb hB); clear hrd
  obtain ⟨x1, x2⟩ := x
  have hal := (Below.refl w.heap.size w).alloc (Nat.le_refl _) (.cells #[.int .i64 x1, .int .i64 x2] 59)
  have H0 : Hid (Below w.heap.size w (w.alloc (.cells #[.int .i64 x1, .int .i64 x2] 59)) ∧ (w.alloc (.cells #[.int .i64 x1, .int .i64 x2] 59)).cell? ⟨w.heap.size, 0, none⟩ = some (.int .i64 x1) ∧ (w.alloc (.cells #[.int .i64 x1, .int .i64 x2] 59)).cell? ⟨w.heap.size, 1, none⟩ = some (.int .i64 x2) ∧ w.heap.size < (w.alloc (.cells #[.int .i64 x1, .int .i64 x2] 59)).heap.size) := Lib.hid ⟨hal, by simp [go_sem], by simp [go_sem], by simp⟩
  clear hal
  go_enter Try.func52, Try.ntmps52
  go_wp2_with fail
  go_loopg [5, 10] n (fun g vc vi wr => ∃ k : Nat, k ≤ n ∧ n - k ≤ g ∧ vi = .int .i64 k ∧ vc = .int .i64 (cnt (fun k => decide (f k = (x1, x2))) k) ∧ Hid (Below w.heap.size w wr ∧ wr.cell? ⟨w.heap.size, 0, none⟩ = some (.int .i64 x1) ∧ wr.cell? ⟨w.heap.size, 1, none⟩ = some (.int .i64 x2) ∧ w.heap.size < wr.heap.size))
  case atStart => exact ⟨0, Nat.zero_le _, by omega, rfl, rfl, H0.out⟩
  case round =>
    clear H0
    obtain ⟨k, hk, hg, rfl, rfl, HI⟩ := hrel
    have hcl := cnt_le (fun k => decide (f k = (x1, x2))) k
    have hcs : cnt (fun k => decide (f k = (x1, x2))) (k + 1) = cnt (fun k => decide (f k = (x1, x2))) k + (if decide (f k = (x1, x2)) = true then 1 else 0) := rfl
    have HCS := Lib.hid hcs; clear hcs
    generalize hc0 : cnt (fun k => decide (f k = (x1, x2))) k = c0 at *
    have HC0 := Lib.hid hc0; clear hc0
    by_cases hlt : k < n
    · have hlz : (k : Int) < (n : Int) := by omega
      obtain ⟨b, off, rfl, hbl, hc1, hc2⟩ := (HR.out wr HI.out.1).at hlt
      have p0 := HI.out.2.1
      have p1 := HI.out.2.2.1
      have hsz := HI.out.2.2.2
      generalize hy : f k = y at *
      obtain ⟨y1, y2⟩ := y
      have HY := Lib.hid hy; clear hy
      dsimp only at hc1 hc2
      have hq := item_eql y1 y2 x1 x2
      have hgt : Try.prog.eqGuardType Try.prog.depth 59 = false := by kernel_rfl
      have hal := HI.out.1.alloc HI.out.1.size (.cells #[.int .i64 y1, .int .i64 y2] 59)
      have z0 : (wr.alloc (.cells #[.int .i64 y1, .int .i64 y2] 59)).cell? ⟨w.heap.size, 0, none⟩ = some (.int .i64 x1) := cell_alloc _ p0
      have z1 : (wr.alloc (.cells #[.int .i64 y1, .int .i64 y2] 59)).cell? ⟨w.heap.size, 1, none⟩ = some (.int .i64 x2) := cell_alloc _ p1
      have HV : Hid (Below w.heap.size w (wr.alloc (.cells #[.int .i64 y1, .int .i64 y2] 59)) ∧ (wr.alloc (.cells #[.int .i64 y1, .int .i64 y2] 59)).cell? ⟨w.heap.size, 0, none⟩ = some (.int .i64 x1) ∧ (wr.alloc (.cells #[.int .i64 y1, .int .i64 y2] 59)).cell? ⟨w.heap.size, 1, none⟩ = some (.int .i64 x2) ∧ w.heap.size < (wr.alloc (.cells #[.int .i64 y1, .int .i64 y2] 59)).heap.size) := Lib.hid ⟨hal, z0, z1, by simp; omega⟩
      clear hal
      cases he : decide ((y1, y2) = (x1, x2))
      · rw [he] at hq
        have HE := Lib.hid he; clear he
        go_wp2_with fail
        go_roundg (n - (k + 1))
        case measure => omega
        case rel => exact ⟨k + 1, hlt, Nat.le_refl _, by go_num, by rw [HCS.out, HE.out, if_neg (by simp), Nat.add_zero], HV.out⟩
      · rw [he] at hq
        have HE := Lib.hid he; clear he
        go_wp2_with fail
        go_roundg (n - (k + 1))
        case measure => omega
        case rel => exact ⟨k + 1, hlt, Nat.le_refl _, by go_num, by rw [HCS.out, HE.out, if_pos rfl]; go_num, HV.out⟩
    · have hlz : ¬ ((k : Int) < (n : Int)) := by omega
      obtain rfl : k = n := by omega
      go_wp2_with fail
      go_ret
      exact ⟨by rw [HC0.out]; rfl, HI.out.1⟩

set_option maxRecDepth 100000 in
set_option maxHeartbeats 2000000 in
theorem sameElements (A A' : Option Addr) (n c d B B' : Nat) (f g : Nat → Int × Int) (w : World) (hn : n ≤ 4611686018427387903) (hB : B ≤ w.heap.size) (hB' : B' ≤ w.heap.size) (hrd : RdI w B A n f) (hrd' : RdI w B' A' n g) (hc : ∀ x, cnt (fun k => decide (f k = x)) n = cnt (fun k => decide (g k = x)) n) :
    Calls Try.prog 30 #[.slice A n c, .slice A' n d] w fun e w' => e = .returned (.bool true) ∧ Below w.heap.size w w' := by
  have HR := Lib.hid (fun w' (hb : Below w.heap.size w w') => hrd.keep hb hB)
  have H1 := Lib.hid (fun x w' (hb : Below w.heap.size w w') => countItem A n c B f x w' hn (Nat.le_trans hB hb.size) (hrd.keep hb hB))
  have H2 := Lib.hid (fun x w' (hb : Below w.heap.size w w') => countItem A' n d B' g x w' hn (Nat.le_trans hB' hb.size) (hrd'.keep hb hB'))
  have HCn := Lib.hid hc
  clear hrd hrd' hc
  have hne : ((n : Int) != (n : Int)) = false := by simp
  go_enter Try.func30, Try.ntmps30
  go_wp2_with fail
  go_loopg [14] n (fun g vi wr => ∃ k : Nat, k ≤ n ∧ n - k ≤ g ∧ vi = .int .i64 k ∧ Hid (Below w.heap.size w wr))
  case atStart => exact ⟨0, Nat.zero_le _, by omega, rfl, Below.refl _ _⟩
  case round =>
    obtain ⟨k, hk, hg, rfl, HI⟩ := hrel
    by_cases hlt : k < n
    · have hlz : (k : Int) < (n : Int) := by omega
      obtain ⟨b, off, rfl, hbl, hc1, hc2⟩ := (HR.out wr HI.out).at hlt
      obtain ⟨y, hy⟩ : ∃ y, y = f k := ⟨_, rfl⟩
      rw [← hy] at hc1 hc2
      have h1 := fun w' hb => H1.out y w' hb
      have h2 := fun w' hb => H2.out y w' hb
      rw [← HCn.out y] at h2
      generalize cnt (fun k => decide (f k = y)) n = q at h1 h2
      have hbe : ((q : Int) != (q : Int)) = false := by simp
      obtain ⟨y1, y2⟩ := y
      dsimp only at hc1 hc2 h1 h2
      have HX : Hid (∀ S : Value, (S = .slice (some ⟨b, off, none⟩) n c ∨ S = .slice A' n d) → ∀ w' (hb : Below w.heap.size w w'), Calls Try.prog 52 #[S, .agg #[.int .i64 y1, .int .i64 y2]] w' fun e w2 => e = .returned (.int .i64 (q : Nat)) ∧ Below w'.heap.size w' w2) := Lib.hid (fun S hS w' hb => by
        rcases hS with rfl | rfl
        · exact h1 w' hb
        · exact h2 w' hb)
      have hal := HI.out.alloc HI.out.size (.cells #[.int .i64 y1, .int .i64 y2] 59)
      clear hy h1 h2
      go_wp2_with fail
      have z0 : (wr.alloc (.cells #[.int .i64 y1, .int .i64 y2] 59)).cell? ⟨wr.heap.size, 0, none⟩ = some (.int .i64 y1) := by simp [go_sem]
      have z1 : (wr.alloc (.cells #[.int .i64 y1, .int .i64 y2] 59)).cell? ⟨wr.heap.size, 1, none⟩ = some (.int .i64 y2) := by simp [go_sem]
      have hvs : wr.heap.size < (wr.alloc (.cells #[.int .i64 y1, .int .i64 y2] 59)).heap.size := by simp
      generalize wr.alloc (.cells #[.int .i64 y1, .int .i64 y2] 59) = V at *
      have HBV : Hid (Below w.heap.size w V.drew ∧ V.drew.cell? ⟨wr.heap.size, 0, none⟩ = some (.int .i64 y1) ∧ V.drew.cell? ⟨wr.heap.size, 1, none⟩ = some (.int .i64 y2) ∧ wr.heap.size < V.drew.heap.size) := Lib.hid ⟨below_drewN hal 1, z0, z1, hvs⟩
      clear hal
      go_region_held3 (fun w' => w'.cell? ⟨wr.heap.size, 0, none⟩ = some (.int .i64 y1) ∧ w'.cell? ⟨wr.heap.size, 1, none⟩ = some (.int .i64 y2))
        (go_keep)
        (first
          | (go_at_call 52; refine (HX.out _ (by first | exact .inl rfl | exact .inr rfl) _ HBV.out.1).mono ?_; rintro e w3 ⟨rfl, hb3⟩; have HBV := Lib.hid (And.intro (HBV.out.1.trans (hb3.mono HBV.out.1.size)) (And.intro ((hb3.cell (p := ⟨wr.heap.size, 0, none⟩) HBV.out.2.2.2).trans HBV.out.2.1) (And.intro ((hb3.cell (p := ⟨wr.heap.size, 1, none⟩) HBV.out.2.2.2).trans HBV.out.2.2.1) (Nat.lt_of_lt_of_le HBV.out.2.2.2 hb3.size)))); have q0 := HBV.out.2.1; have q1 := HBV.out.2.2.1; clear hb3))
      go_wp2_with fail
      go_roundg (n - (k + 1))
      case measure => omega
      case rel => exact ⟨k + 1, hlt, Nat.le_refl _, by go_num, HBV.out.1⟩
    · have hlz : ¬ ((k : Int) < (n : Int)) := by omega
      go_wp2_with fail
      go_ret
      exact ⟨rfl, HI.out⟩

/-- A list of numbers of the call's own. -/
def NewN (w : World) (n : Nat) (f : Nat → Int) (e : Ending) (w' : World) : Prop :=
  ∃ A c, e = .returned (.slice A n c) ∧ Rd w' w'.heap.size (Value.int .i64) A n f ∧ Below w.heap.size w w'
def intsL (f : Nat → Int) (k : Nat) : List Value := (List.range k).map (fun i => .int .i64 (f i))
theorem intsL_succ (f : Nat → Int) (k : Nat) : intsL f k ++ [.int .i64 (f k)] = intsL f (k + 1) := by
  unfold intsL; rw [List.range_succ]; simp
theorem intsL_get {f : Nat → Int} {k i : Nat} (h : i < k) : (intsL f k)[i]? = some (.int .i64 (f i)) := by
  unfold intsL; rw [List.getElem?_map, List.getElem?_range h]; rfl
theorem cell_one_new (w : World) (x : Value) (t : TypeId) {g : Nat} (hg : g = w.heap.size) : ∀ j u, [x][j]? = some u → (w.alloc (.cells #[x] t)).cell? ((⟨g, 0, none⟩ : Addr).add j) = some u := by
  intro j u hj
  subst hg
  rw [Go.WideShapes.add_plain, Nat.zero_add, World.cell?_alloc_at _ _ _ _ rfl]
  match j, hj with
  | 0, hj => exact hj
  | j + 1, hj => simp at hj
/-- The state of a loop that builds such a list. -/
def GrowN (w : World) (f : Nat → Int) (v : Value) (k : Nat) (wr : World) : Prop := wr.ownsRow w.heap.size 3 1 v k (intsL f k) ∧ Below w.heap.size w wr
theorem GrowN.start (w : World) (f : Nat → Int) : GrowN w f (.slice none 0 0) 0 w := ⟨World.ownsRow_nil _ _ _ _, Below.refl _ _⟩
theorem GrowN.step {w wr W w1 : World} {f : Nat → Int} {v v1 : Value} {k : Nat} (h : GrowN w f v k wr) (hW : Below wr.heap.size wr W) (ho : w1.ownsRow w.heap.size 3 1 v1 (k + 1) (intsL f k ++ [.int .i64 (f k)])) (hg : W.grownBy w1 v.ownBlock) : GrowN w f v1 (k + 1) w1 :=
  ⟨by rw [← intsL_succ]; exact ho, (h.2.trans (hW.mono h.2.size)).grown hg (Nat.le_trans h.2.size hW.size) (fun k hk => (h.1.lt k hk).1)⟩
theorem GrowN.done {w wr : World} {f : Nat → Int} {v : Value} {k : Nat} (h : GrowN w f v k wr) : ∃ A c, v = .slice A k c ∧ Rd wr wr.heap.size (Value.int .i64) A k f := by
  obtain ⟨F, hF, hx⟩ := OwnRow.of_own h.1
  exact hF.rd (enc := Value.int .i64) (f := f) (fun i hi => hx i _ (intsL_get hi))

theorem infoIntK : (Try.prog.info? 3).map (fun i => (i.zero, i.size, i.bytes)) = some (some (.int .i64 0), 1, 8) := by kernel_rfl
set_option maxHeartbeats 1000000 in
theorem keysOf (A : Option Addr) (n c B : Nat) (f : Nat → Int × Int) (w : World) (hn : n * 16 ≤ 140737488351232) (hB : B ≤ w.heap.size) (hrd : RdI w B A n f) :
    Calls Try.prog 39 #[.slice A n c] w (NewN w n (fun i => (f i).1)) := by
  obtain ⟨i0, hi0, hz0, hz1, hz2⟩ := info_parts infoIntK
  have HR := Lib.hid (fun w' (hb : Below w.heap.size w w') => hrd.keep hb hB); clear hrd
  go_enter Try.func39, Try.ntmps39
  go_wp2_with fail
  go_loopw [3, 8] (fun v vi wr => ∃ k : Nat, k ≤ n ∧ vi = .int .i64 k ∧ Hid (GrowN w (fun i => (f i).1) v k wr)) (fun _ vi _ => n - (intOf vi).toNat)
  case atStart => exact ⟨0, Nat.zero_le _, rfl, GrowN.start w _⟩
  case round =>
    obtain ⟨k, hk, rfl, HI⟩ := hrel
    by_cases hlt : k < n
    · obtain ⟨b, off, rfl, _, hc1, hc2⟩ := (HR.out wr HI.out.2).at hlt
      have hbs := HI.out.2.size
      generalize hx : (f k).1 = x at hc1
      generalize hy : (f k).2 = y at hc2
      have HX := Lib.hid hx; clear hx hy
      go_wp2_with (at_builtin; refine wpList_append_own _ rfl _ _ 30 rfl w.heap.size 3 i0 (.int .i64 0) 1 8 Try.underlying30 hi0 hz0 hz1 hz2 rfl (by decide) _ _ _ rfl ((HI.out.1.alloc _).alloc _) ⟨wr.heap.size + 1, 0, none⟩ 1 1 [.int .i64 x] rfl rfl ?c1 ?c2 ?c3 ?c4 ?c5 ?_)
      case c1 => exact cell_one_new _ _ _ (by simp)
      case c2 => simp [Value.oneCell']
      case c3 => simp only [maxLen]; omega
      case c4 => omega
      case c5 => simp; omega
      intro v1 w1 ho1 hg1 _
      have HG := Lib.hid (HI.out.step (((Below.refl _ _).alloc (Nat.le_refl _) _).alloc (by simp) _) (by rw [HX.out]; exact ho1) hg1)
      clear ho1 hg1
      go_wp2_with fail
      go_roundw
      case rel => exact ⟨k + 1, hlt, by go_num, HG.out⟩
      case measure => simp [intOf]; omega
    · obtain rfl : k = n := by omega
      obtain ⟨A1, c1, rfl, hr1⟩ := HI.out.done
      have HB := Lib.hid (And.intro hr1 HI.out.2); clear hr1
      go_wp2_with fail
      go_ret
      exact ⟨A1, c1, rfl, HB.out.1, HB.out.2⟩
end Go.Proofs.Ytkklbnheiganlaa
