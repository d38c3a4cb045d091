/-
  The walks of countItem, sameElements, keysOf.
-/
import Derived.Test.YtkklbnheiganlaaSame
import Derived.Test.YtkklbnheiganlaaStC
import Derived.Test.YtkklbnheiganlaaStG
import Derived.Deep.RegionHeld3
import Derived.Deep.LoopGhost
namespace Go.Proofs.Ytkklbnheiganlaa
open Go.RowKit Go.Proofs
set_option linter.unusedVariables false

set_option maxHeartbeats 2000000 in
theorem countItem (A : Option Addr) (n c B : Nat) (f : Nat → Int × Int) (x : Int × Int) (w : World) (hn : n ≤ 4611686018427387903) (hB : B ≤ w.heap.size) (hrd : RdI w B A n f) :
    Calls Try.prog 52 #[.slice A n c, .agg #[.int .i64 x.1, .int .i64 x.2]] w fun e w' => e = .returned (.int .i64 (cnt (fun k => decide (f k = x)) n)) ∧ Below w.heap.size w w' := by
  have HR := Lib.hid (fun w' (hb : Below w.heap.size w w') => hrd.keep hb hB); clear hrd
  obtain ⟨x1, x2⟩ := x
  have hal := (Below.refl w.heap.size w).alloc (Nat.le_refl _) (.cells #[.int .i64 x1, .int .i64 x2] 59)
  have H0 : Hid (Below w.heap.size w (w.alloc (.cells #[.int .i64 x1, .int .i64 x2] 59)) ∧ (w.alloc (.cells #[.int .i64 x1, .int .i64 x2] 59)).cell? ⟨w.heap.size, 0, none⟩ = some (.int .i64 x1) ∧ (w.alloc (.cells #[.int .i64 x1, .int .i64 x2] 59)).cell? ⟨w.heap.size, 1, none⟩ = some (.int .i64 x2) ∧ w.heap.size < (w.alloc (.cells #[.int .i64 x1, .int .i64 x2] 59)).heap.size) := Lib.hid ⟨hal, by simp [go_sem], by simp [go_sem], by simp⟩
  clear hal
  go_enter Try.func52, Try.ntmps52
  go_wp2_with fail
  go_loopg [5, 10] n (fun g vc vi wr => ∃ k : Nat, k ≤ n ∧ n - k ≤ g ∧ vi = .int .i64 k ∧ vc = .int .i64 (cnt (fun k => decide (f k = (x1, x2))) k) ∧ Hid (Below w.heap.size w wr ∧ wr.cell? ⟨w.heap.size, 0, none⟩ = some (.int .i64 x1) ∧ wr.cell? ⟨w.heap.size, 1, none⟩ = some (.int .i64 x2) ∧ w.heap.size < wr.heap.size))
  case atStart => exact ⟨0, Nat.zero_le _, by omega, rfl, rfl, H0.out⟩
  case round =>
    clear H0
    obtain ⟨k, hk, hg, rfl, rfl, HI⟩ := hrel
    have hcl := cnt_le (fun k => decide (f k = (x1, x2))) k
    have hcs : cnt (fun k => decide (f k = (x1, x2))) (k + 1) = cnt (fun k => decide (f k = (x1, x2))) k + (if decide (f k = (x1, x2)) = true then 1 else 0) := rfl
    have HCS := Lib.hid hcs; clear hcs
    generalize hc0 : cnt (fun k => decide (f k = (x1, x2))) k = c0 at *
    have HC0 := Lib.hid hc0; clear hc0
    by_cases hlt : k < n
    · have hlz : (k : Int) < (n : Int) := by omega
      obtain ⟨b, off, rfl, hbl, hc1, hc2⟩ := (HR.out wr HI.out.1).at hlt
      have p0 := HI.out.2.1
      have p1 := HI.out.2.2.1
      have hsz := HI.out.2.2.2
      generalize hy : f k = y at *
      obtain ⟨y1, y2⟩ := y
      have HY := Lib.hid hy; clear hy
      dsimp only at hc1 hc2
      have hq := item_eql y1 y2 x1 x2
      have hgt : Try.prog.eqGuardType Try.prog.depth 59 = false := by kernel_rfl
      have hal := HI.out.1.alloc HI.out.1.size (.cells #[.int .i64 y1, .int .i64 y2] 59)
      have z0 : (wr.alloc (.cells #[.int .i64 y1, .int .i64 y2] 59)).cell? ⟨w.heap.size, 0, none⟩ = some (.int .i64 x1) := cell_alloc _ p0
      have z1 : (wr.alloc (.cells #[.int .i64 y1, .int .i64 y2] 59)).cell? ⟨w.heap.size, 1, none⟩ = some (.int .i64 x2) := cell_alloc _ p1
      have HV : Hid (Below w.heap.size w (wr.alloc (.cells #[.int .i64 y1, .int .i64 y2] 59)) ∧ (wr.alloc (.cells #[.int .i64 y1, .int .i64 y2] 59)).cell? ⟨w.heap.size, 0, none⟩ = some (.int .i64 x1) ∧ (wr.alloc (.cells #[.int .i64 y1, .int .i64 y2] 59)).cell? ⟨w.heap.size, 1, none⟩ = some (.int .i64 x2) ∧ w.heap.size < (wr.alloc (.cells #[.int .i64 y1, .int .i64 y2] 59)).heap.size) := Lib.hid ⟨hal, z0, z1, by simp; omega⟩
      clear hal
      cases he : decide ((y1, y2) = (x1, x2))
      · rw [he] at hq
        have HE := Lib.hid he; clear he
        go_wp2_with fail
        go_roundg (n - (k + 1))
        case measure => omega
        case rel => exact ⟨k + 1, hlt, Nat.le_refl _, by go_num, by rw [HCS.out, HE.out, if_neg (by simp), Nat.add_zero], HV.out⟩
      · rw [he] at hq
        have HE := Lib.hid he; clear he
        go_wp2_with fail
        go_roundg (n - (k + 1))
        case measure => omega
        case rel => exact ⟨k + 1, hlt, Nat.le_refl _, by go_num, by rw [HCS.out, HE.out, if_pos rfl]; go_num, HV.out⟩
    · have hlz : ¬ ((k : Int) < (n : Int)) := by omega
      obtain rfl : k = n := by omega
      go_wp2_with fail
      go_ret
      exact ⟨by rw [HC0.out]; rfl, HI.out.1⟩

set_option maxRecDepth 100000 in
set_option maxHeartbeats 2000000 in
theorem sameElements (A A' : Option Addr) (n c d B B' : Nat) (f g : Nat → Int × Int) (w : World) (hn : n ≤ 4611686018427387903) (hB : B ≤ w.heap.size) (hB' : B' ≤ w.heap.size) (hrd : RdI w B A n f) (hrd' : RdI w B' A' n g) (hc : ∀ x, cnt (fun k => decide (f k = x)) n = cnt (fun k => decide (g k = x)) n) :
    Calls Try.prog 30 #[.slice A n c, .slice A' n d] w fun e w' => e = .returned (.bool true) ∧ Below w.heap.size w w' := by
  have HR := Lib.hid (fun w' (hb : Below w.heap.size w w') => hrd.keep hb hB)
  have H1 := Lib.hid (fun x w' (hb : Below w.heap.size w w') => countItem A n c B f x w' hn (Nat.le_trans hB hb.size) (hrd.keep hb hB))
  have H2 := Lib.hid (fun x w' (hb : Below w.heap.size w w') => countItem A' n d B' g x w' hn (Nat.le_trans hB' hb.size) (hrd'.keep hb hB'))
  have HCn := Lib.hid hc
  clear hrd hrd' hc
  have hne : ((n : Int) != (n : Int)) = false := by simp
  go_enter Try.func30, Try.ntmps30
  go_wp2_with fail
  go_loopg [14] n (fun g vi wr => ∃ k : Nat, k ≤ n ∧ n - k ≤ g ∧ vi = .int .i64 k ∧ Hid (Below w.heap.size w wr))
  case atStart => exact ⟨0, Nat.zero_le _, by omega, rfl, Below.refl _ _⟩
  case round =>
    obtain ⟨k, hk, hg, rfl, HI⟩ := hrel
    by_cases hlt : k < n
    · have hlz : (k : Int) < (n : Int) := by omega
      obtain ⟨b, off, rfl, hbl, hc1, hc2⟩ := (HR.out wr HI.out).at hlt
      obtain ⟨y, hy⟩ : ∃ y, y = f k := ⟨_, rfl⟩
      rw [← hy] at hc1 hc2
      have h1 := fun w' hb => H1.out y w' hb
      have h2 := fun w' hb => H2.out y w' hb
      rw [← HCn.out y] at h2
      generalize cnt (fun k => decide (f k = y)) n = q at h1 h2
      have hbe : ((q : Int) != (q : Int)) = false := by simp
      obtain ⟨y1, y2⟩ := y
      dsimp only at hc1 hc2 h1 h2
      have HX : Hid (∀ S : Value, (S = .slice (some ⟨b, off, none⟩) n c ∨ S = .slice A' n d) → ∀ w' (hb : Below w.heap.size w w'), Calls Try.prog 52 #[S, .agg #[.int .i64 y1, .int .i64 y2]] w' fun e w2 => e = .returned (.int .i64 (q : Nat)) ∧ Below w'.heap.size w' w2) := Lib.hid (fun S hS w' hb => by
        rcases hS with rfl | rfl
        · exact h1 w' hb
        · exact h2 w' hb)
      have hal := HI.out.alloc HI.out.size (.cells #[.int .i64 y1, .int .i64 y2] 59)
      clear hy h1 h2
      go_wp2_with fail
      have z0 : (wr.alloc (.cells #[.int .i64 y1, .int .i64 y2] 59)).cell? ⟨wr.heap.size, 0, none⟩ = some (.int .i64 y1) := by simp [go_sem]
      have z1 : (wr.alloc (.cells #[.int .i64 y1, .int .i64 y2] 59)).cell? ⟨wr.heap.size, 1, none⟩ = some (.int .i64 y2) := by simp [go_sem]
      have hvs : wr.heap.size < (wr.alloc (.cells #[.int .i64 y1, .int .i64 y2] 59)).heap.size := by simp
      generalize wr.alloc (.cells #[.int .i64 y1, .int .i64 y2] 59) = V at *
      have HBV : Hid (Below w.heap.size w V.drew ∧ V.drew.cell? ⟨wr.heap.size, 0, none⟩ = some (.int .i64 y1) ∧ V.drew.cell? ⟨wr.heap.size, 1, none⟩ = some (.int .i64 y2) ∧ wr.heap.size < V.drew.heap.size) := Lib.hid ⟨below_drewN hal 1, z0, z1, hvs⟩
      clear hal
      go_region_held3 (fun w' => w'.cell? ⟨wr.heap.size, 0, none⟩ = some (.int .i64 y1) ∧ w'.cell? ⟨wr.heap.size, 1, none⟩ = some (.int .i64 y2))
        (go_keep)
        (first
          | (go_at_call 52; refine (HX.out _ (by first | exact .inl rfl | exact .inr rfl) _ HBV.out.1).mono ?_; rintro e w3 ⟨rfl, hb3⟩; have HBV := Lib.hid (And.intro (HBV.out.1.trans (hb3.mono HBV.out.1.size)) (And.intro ((hb3.cell (p := ⟨wr.heap.size, 0, none⟩) HBV.out.2.2.2).trans HBV.out.2.1) (And.intro ((hb3.cell (p := ⟨wr.heap.size, 1, none⟩) HBV.out.2.2.2).trans HBV.out.2.2.1) (Nat.lt_of_lt_of_le HBV.out.2.2.2 hb3.size)))); have q0 := HBV.out.2.1; have q1 := HBV.out.2.2.1; clear hb3))
      go_wp2_with fail
      go_roundg (n - (k + 1))
      case measure => omega
      case rel => exact ⟨k + 1, hlt, Nat.le_refl _, by go_num, HBV.out.1⟩
    · have hlz : ¬ ((k : Int) < (n : Int)) := by omega
      go_wp2_with fail
      go_ret
      exact ⟨rfl, HI.out⟩
end Go.Proofs.Ytkklbnheiganlaa
