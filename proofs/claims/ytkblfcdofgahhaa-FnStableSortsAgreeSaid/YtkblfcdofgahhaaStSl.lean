/-
  The walks of sort.SliceStable and impl.SliceStableItems.
-/
import Derived.Test.YtkblfcdofgahhaaStF1
import Derived.Test.YtkblfcdofgahhaaStKy
import Derived.Lib.ReflectliteSwap
import Derived.Laws.Externs
namespace Go.Proofs.Ytkblfcdofgahhaa
open Go.RowKit Go.Proofs Go.Lib
set_option linter.unusedVariables false

set_option maxHeartbeats 1000000 in
theorem sliceLess (g n cap Bs i j : Nat) (x y : Int) (w : World) (hn : n ≤ 4611686018427387903) (hi : i < n) (hj : j < n) (hs : w.cell? ⟨Bs, 0, none⟩ = some (.slice (some ⟨g, 0, none⟩) n cap)) (hx : w.cell? ⟨g, i * 2, none⟩ = some (.int .i64 x)) (hy : w.cell? ⟨g, j * 2, none⟩ = some (.int .i64 y)) :
    Calls Try.prog 48 (#[.int .i64 i, .int .i64 j] ++ #[.pointer (some ⟨Bs, 0, none⟩)]) w fun e w' => e = .returned (.bool (decide (x < y))) ∧ ∃ q, w' = w.drewN q := by
  have hil : (i : Int) < (n : Int) := by omega
  have hjl : (j : Int) < (n : Int) := by omega
  go_enter Try.func48, Try.ntmps48
  go_wp2_with fail
  go_quiet (fail)
  go_wp2_with fail
  go_ret
  exact ⟨rfl, nq, rfl⟩
theorem sliceLess_en : ∀ args w, (callFunc 48 args).run Try.prog w = .ok (.enter 48 args) w := enters_of Try.func48 (by kernel_rfl) rfl

/-- The literal that exchanges, by the length. -/
def swNo (n : Nat) : Nat := if n = 0 then 65 else if n = 1 then 66 else 73
def swB (n : Nat) (v h : Value) : Array Value := if n ≤ 1 then #[] else #[v, h]

theorem swap_run (g n cap i j : Nat) (x1 x2 y1 y2 : Int) (w : World) (hi : i < n) (hj : j < n)
    (hx1 : w.cell? ⟨g, i * 2, none⟩ = some (.int .i64 x1)) (hx2 : w.cell? ⟨g, i * 2 + 1, none⟩ = some (.int .i64 x2)) (hy1 : w.cell? ⟨g, j * 2, none⟩ = some (.int .i64 y1)) (hy2 : w.cell? ⟨g, j * 2 + 1, none⟩ = some (.int .i64 y2))
    (fr : ∀ k, w.frozen? ⟨g, k, none⟩ = false) (h2 : 2 ≤ n) :
    (callFunc (swNo n) (#[.int .i64 (i : Nat), .int .i64 (j : Nat)] ++ swB n (.slice (some ⟨g, 0, none⟩) n cap) (typeHandle Try.prog 42))).run Try.prog w = .ok (.value (.tuple #[])) (swapW w g i j (x1, x2) (y1, y2)) := by
  obtain ⟨ie, hie, hz0, hz1, hz2⟩ := info_parts infoItem
  unfold swNo swB
  rw [if_neg (by omega), if_neg (by omega), if_neg (by omega)]
  rw [run_callFunc_extern Try.func73 (by kernel_rfl) (by kernel_rfl) (by kernel_rfl) (e := Extern.ReflectliteSwapper.swap false) (by kernel_rfl)]
  have hs : ie.size = 2 := hz1
  have := run_swap_cells (P := Try.prog) false 42 ie hie (fun _ => by kernel_rfl) g 0 n cap i j hi hj [.int .i64 x1, .int .i64 x2] [.int .i64 y1, .int .i64 y2] (by rw [hs]; rfl) (by rw [hs]; rfl) (by simp [Value.oneCell']) (by simp [Value.oneCell']) w
    (fun k v hk => by
      rw [hs, Nat.zero_add]
      match k, hk with
      | 0, hk => rw [← Option.some.inj hk]; exact hx1
      | 1, hk => rw [← Option.some.inj hk]; exact hx2
      | k + 2, hk => simp at hk)
    (fun k v hk => by
      rw [hs, Nat.zero_add]
      match k, hk with
      | 0, hk => rw [← Option.some.inj hk]; exact hy1
      | 1, hk => rw [← Option.some.inj hk]; exact hy2
      | k + 2, hk => simp at hk) (fun k _ => fr _) (fun k _ => fr _)
  rw [show (#[Value.int .i64 (i : Int), Value.int .i64 (j : Int)] ++ #[Value.slice (some ⟨g, 0, none⟩) n cap, typeHandle Try.prog 42]) = #[.int .i64 i, .int .i64 j, .slice (some ⟨g, 0, none⟩) n cap, typeHandle Try.prog 42] from rfl, this, hs, Nat.zero_add, Nat.zero_add]
  rfl
theorem swap_run1 (w : World) (v h : Value) : (callFunc (swNo 1) (#[.int .i64 (0 : Nat), .int .i64 (0 : Nat)] ++ swB 1 v h)).run Try.prog w = .ok (.value (.tuple #[])) w := by
  show (callFunc 66 #[.int .i64 0, .int .i64 0]).run Try.prog w = _
  rw [run_callFunc_extern Try.func66 (by kernel_rfl) (by kernel_rfl) (by kernel_rfl) (e := (Extern.ReflectliteSwapper.rows[2]!).2) (by kernel_rfl)]
  rfl

/-- Items in a row of their own, and a variable that holds the slice. -/
def RowSl (w0 : World) (g n cap len Bs : Nat) (f : Nat → Int × Int) (G : Nat → Value) (p : Nat → Nat) (w : World) : Prop :=
  RowPI w0 g 42 n len f G p w ∧ w.cell? ⟨Bs, 0, none⟩ = some (.slice (some ⟨g, 0, none⟩) n cap)

theorem far_drewN (g : Nat) (w : World) (q : Nat) : Far g w (w.drewN q) := ⟨Nat.le_refl _, fun _ _ _ => rfl⟩
theorem far_swapW (w : World) (g i j : Nat) (x y : Int × Int) : Far g w (swapW w g i j x y) := by
  unfold swapW
  refine ⟨by simp [World.setCell], fun b hb _ => ?_⟩
  rw [heap_setCell_other _ _ _ _ (by simpa using hb), heap_setCell_other _ _ _ _ (by simpa using hb), heap_setCell_other _ _ _ _ (by simpa using hb), heap_setCell_other _ _ _ _ (by simpa using hb)]

theorem sliceS (g n cap len Bs : Nat) (f : Nat → Int × Int) (G : Nat → Value) (w0 : World) (hn : n ≤ 1152921504606846975) (hne : Bs ≠ g) (hn1 : 1 ≤ n) :
    FuncS (tabM (keyT f)) (fun _ => True) (RowSl w0 g n cap len Bs f G) 48 #[.pointer (some ⟨Bs, 0, none⟩)] (swNo n) (swB n (.slice (some ⟨g, 0, none⟩) n cap) (typeHandle Try.prog 42)) g n where
  guard := tabM_guard _
  hn := hn
  hg := fun p w h => h.1.lt
  alloc := fun p w o h => ⟨h.1.keep ((Below.refl _ _).alloc (Nat.le_refl _) o), cell_alloc _ h.2⟩
  eL := sliceLess_en
  lessF := fun p w i j hi hj hR _ => (sliceLess g n cap Bs i j _ _ w (by omega) hi hj hR.2 (hR.1.cell1 hi) (hR.1.cell1 hj)).mono fun e w' h => by
    obtain ⟨q, rfl⟩ := h.2
    exact ⟨⟨h.1, hR.1.drewN q, hR.2⟩, far_drewN g w q⟩
  swapF := fun p w i j hi hj hR _ => by
    by_cases h2 : 2 ≤ n
    · refine ⟨_, swap_run g n cap i j _ _ _ _ w hi hj (hR.1.cell1 hi) (hR.1.cell2 hi) (hR.1.cell1 hj) (hR.1.cell2 hj) hR.1.frozen h2, ⟨hR.1.swap hi hj, ?_⟩, far_swapW _ _ _ _ _ _⟩
      have := (far_swapW w g i j (f (p i)) (f (p j))).2 Bs hne (World.block_lt_of_cell? _ _ hR.2)
      have h3 := hR.2
      simp only [World.cell?] at h3 ⊢
      rw [this]; exact h3
    · obtain rfl : n = 1 := by omega
      obtain rfl : i = 0 := by omega
      obtain rfl : j = 0 := by omega
      refine ⟨w, swap_run1 w _ _, ⟨⟨hR.1.1, hR.1.2.1, hR.1.2.2.1, hR.1.2.2.2.congr fun k hk => ?_⟩, hR.2⟩, Nat.le_refl _, fun _ _ _ => rfl⟩
      by_cases hk2 : k < 1 * 2
      · rw [if_pos hk2, if_pos hk2]
        unfold cellI
        have : k / 2 = 0 := by omega
        simp only [this]
        rfl
      · rw [if_neg hk2, if_neg hk2]
end Go.Proofs.Ytkblfcdofgahhaa
