/-
  The contracts of the exact laws' helpers at items: a copy, equality, marks and their reading.
-/
import Derived.Test.YtkklbnheiganlaaProg
import Derived.Test.YtkklbnheiganlaaItm
import Derived.StillTailTactics
import Derived.Laws.MakeOwn
namespace Go.Proofs.Ytkklbnheiganlaa
open Go.RowKit Go.Proofs
set_option linter.unusedVariables false

theorem infoItem : (Try.prog.info? 59).map (fun i => (i.zero, i.size, i.bytes)) = some (some (.agg #[.int .i64 0, .int .i64 0]), 2, 16) := by kernel_rfl

/-- make([]impl.Item, n) -/
theorem makeItems (n : Nat) (hn : n * 16 ≤ 281474976710656) (w : World) :
    (Instr.makeSlice 24 (.int .i64 (n : Int)) (.int .i64 (n : Int))).run Try.prog w = .ok (.slice (some ⟨w.heap.size, 0, none⟩) n n) (w.alloc (.cells (madeCells #[.int .i64 0, .int .i64 0] (n * 2)) 59)) := by
  obtain ⟨i, hi, hz, hs, hb⟩ := info_parts infoItem
  have := run_make (P := Try.prog) w 24 59 i _ Try.underlying24 hi hz .i64 .i64 n n (by omega) (Int.le_refl _) (by rw [hb]; omega) (by omega)
  rw [hs, show (Value.agg #[.int .i64 0, .int .i64 0]).cells = #[.int .i64 0, .int .i64 0] from rfl] at this
  simpa using this

theorem rowIs_madeItems (w : World) (n : Nat) (t : TypeId) : (w.alloc (.cells (madeCells #[.int .i64 0, .int .i64 0] (n * 2)) t)).rowIs w.heap.size t (n * 2) (cellI fun _ => (0, 0)) :=
  ⟨_, heap_alloc_new _ _, size_madeCells _ _, fun i hi => by
    unfold cellI
    rcases Nat.mod_two_eq_zero_or_one i with h | h <;> simp [madeCells, hi, h]⟩

set_option maxHeartbeats 1000000 in
theorem toItem (x y : Int) (w : World) : Calls Try.prog 46 #[.agg #[.int .i64 x, .int .i64 y]] w fun e w' => e = .returned (.agg #[.int .i64 x, .int .i64 y]) ∧ Below w.heap.size w w' := by
  go_enter Try.func46, Try.ntmps46
  go_wp2
  exact bodyPost_ret (v := .agg #[.int .i64 x, .int .i64 y]) (by simp [results, Try.results46, go_sem]) rfl ⟨rfl, (((Below.refl _ _).alloc (Nat.le_refl _) _).alloc (by simp) _).alloc (by simp; omega) _⟩

/-- A new list that holds the items f. -/
def NewItems (w : World) (n : Nat) (f : Nat → Int × Int) (e : Ending) (w' : World) : Prop :=
  ∃ g, e = .returned (.slice (some ⟨g, 0, none⟩) n n) ∧ w.heap.size ≤ g ∧ w'.rowIs g 59 (n * 2) (cellI f) ∧ Below w.heap.size w w'

theorem cellI_step {f : Nat → Int × Int} {k i : Nat} :
    (if i = k * 2 + 1 then Value.int .i64 (f k).2 else if i = k * 2 then Value.int .i64 (f k).1 else cellI (fun j => if j < k then f j else (0, 0)) i) = cellI (fun j => if j < k + 1 then f j else (0, 0)) i := by
  by_cases h1 : i = k * 2 + 1
  · subst h1; rw [if_pos rfl, cellI_odd, if_pos (by omega)]
  · rw [if_neg h1]
    by_cases h2 : i = k * 2
    · subst h2; rw [if_pos rfl, cellI_even, if_pos (by omega)]
    · rw [if_neg h2]
      unfold cellI
      have e : (i / 2 < k + 1) ↔ (i / 2 < k) := by omega
      simp only [e]

set_option maxHeartbeats 2000000 in
theorem toItemS (n c : Nat) (A : Option Addr) (f : Nat → Int × Int) (w : World) (B : Nat) (hB : B ≤ w.heap.size) (hn : n * 16 ≤ 281474976710656) (hrd : RdI w B A n f) :
    Calls Try.prog 16 #[.slice A n c] w (NewItems w n f) := by
  have hmk := makeItems n hn
  have HR := Lib.hid hrd; clear hrd
  go_enter Try.func16, Try.ntmps16
  go_wp2_with fail
  go_loopw [4] (fun vi wr => ∃ k : Nat, k ≤ n ∧ vi = .int .i64 k ∧ w.heap.size < wr.heap.size ∧ Hid (wr.rowIs w.heap.size 59 (n * 2) (cellI fun i => if i < k then f i else (0, 0)) ∧ Below w.heap.size w wr)) (fun vi _ => n - (intOf vi).toNat)
  case atStart => exact ⟨0, Nat.zero_le _, rfl, by simp, (rowIs_madeItems w n _).congr (fun i _ => by simp), (Below.refl _ _).alloc (Nat.le_refl _) _⟩
  case round =>
    clear hmk
    obtain ⟨k, hk, rfl, hsz, HI⟩ := hrel
    by_cases hlt : k < n
    · obtain ⟨b, off, rfl, hbB, hc1, hc2⟩ := (HR.out.keep HI.out.2 hB).at hlt
      have HC := Lib.hid (toItem (f k).1 (f k).2 wr)
      generalize hx : (f k).1 = x at hc1 HC
      generalize hy : (f k).2 = y at hc2 HC
      have HX := Lib.hid hx; have HY := Lib.hid hy; clear hx hy
      go_wp2_with fail
      refine HC.out.mono ?_
      rintro e w2 ⟨rfl, hb2⟩
      have r2 := rowIs_below HI.out.1 hb2 hsz
      have c1 := r2.cell (show k * 2 < n * 2 by omega)
      have c2 := r2.cell (show k * 2 + 1 < n * 2 by omega)
      have f1 := r2.frozen (k * 2)
      have f2 := r2.frozen (k * 2 + 1)
      rw [cellI_even] at c1
      rw [cellI_odd] at c2
      have hs2 : w.heap.size < w2.heap.size := Nat.lt_of_lt_of_le hsz hb2.size
      have R2 := Lib.hid r2; have B2 := Lib.hid (HI.out.2.trans (hb2.mono (Nat.le_of_lt hsz)))
      clear r2 hb2
      go_wp2_with fail
      refine ⟨⟨k + 1, hlt, by go_num, by simpa [World.setCell] using hs2, ((R2.out.set (k * 2) _).set (k * 2 + 1) _).congr (fun i _ => by rw [← HX.out, ← HY.out]; exact cellI_step), (B2.out.setCell (Nat.le_refl _) _).setCell (Nat.le_refl _) _⟩, by simp [intOf]; omega⟩
    · go_wp2_with fail
      go_ret
      exact ⟨w.heap.size, rfl, Nat.le_refl _, HI.out.1.congr fun i hi => by
        unfold cellI
        have e : i / 2 < k := by omega
        simp only [e, if_true], HI.out.2⟩

set_option maxHeartbeats 400000 in
theorem szItemS (n c : Nat) (A : Option Addr) (w : World) (hn : n ≤ 4611686018427387903) :
    Calls Try.prog 14 #[.slice A n c, .int .i64 1048576] w fun e w' => e = .returned (.int .i64 (if n ≤ 1048576 then 1048576 - (n : Int) else -1)) ∧ w' = w := by
  have hw : IntKind.i64.wrap (1048576 - (n : Int)) = 1048576 - (n : Int) := IntWalk.i64_in _ (by omega)
  by_cases h : n ≤ 1048576
  · have h0 : ¬ (1048576 - (n : Int) < 0) := by omega
    rw [if_pos h]
    go_enter Try.func14, Try.ntmps14
    go_wp2
    go_ret
    exact ⟨rfl, rfl⟩
  · have h0 : 1048576 - (n : Int) < 0 := by omega
    rw [if_neg h]
    go_enter Try.func14, Try.ntmps14
    go_wp2
    go_ret
    exact ⟨rfl, rfl⟩

set_option maxHeartbeats 1000000 in
theorem eqItem (x y x' y' : Int) (w : World) : Calls Try.prog 49 #[.agg #[.int .i64 x, .int .i64 y], .agg #[.int .i64 x', .int .i64 y']] w fun e w' => e = .returned (.bool (decide (x = x' ∧ y = y'))) ∧ Below w.heap.size w w' := by
  have hbel : ∀ o o', Below w.heap.size w ((w.alloc o).alloc o') := fun o o' => ((Below.refl _ _).alloc (Nat.le_refl _) _).alloc (by simp) _
  by_cases hx : x = x'
  · by_cases hy : y = y'
    · subst hx; subst hy
      have h1 : (x != x) = false := by simp
      have h2 : (y != y) = false := by simp
      rw [decide_eq_true (show x = x ∧ y = y from ⟨rfl, rfl⟩)]
      go_enter Try.func49, Try.ntmps49
      go_wp2
      go_ret
      exact ⟨rfl, hbel _ _⟩
    · subst hx
      have h1 : (x != x) = false := by simp
      have h2 : (y != y') = true := by simpa using hy
      rw [decide_eq_false (show ¬ (x = x ∧ y = y') from fun h => hy h.2)]
      clear hy
      go_enter Try.func49, Try.ntmps49
      go_wp2
      go_ret
      exact ⟨rfl, hbel _ _⟩
  · have h1 : (x != x') = true := by simpa using hx
    rw [decide_eq_false (show ¬ (x = x' ∧ y = y') from fun h => hx h.1)]
    clear hx
    go_enter Try.func49, Try.ntmps49
    go_wp2
    go_ret
    exact ⟨rfl, hbel _ _⟩

/-- Two lists of items: whether they agree; memory below stays. -/
def EqTellsI (n m : Nat) (f g : Nat → Int × Int) (w : World) (e : Ending) (w' : World) : Prop := ∃ b : Bool, e = .returned (.bool b) ∧ (b = true ↔ n = m ∧ ∀ i, i < n → f i = g i) ∧ Below w.heap.size w w'

set_option maxHeartbeats 2000000 in
set_option maxRecDepth 100000 in
theorem eqItemS (n m c d : Nat) (A A' : Option Addr) (f g : Nat → Int × Int) (w : World) (hn : n ≤ 4611686018427387903) (hm : m ≤ 4611686018427387903) (hrd : RdI w w.heap.size A n f) (hrd' : RdI w w.heap.size A' m g) :
    Calls Try.prog 18 #[.slice A n c, .slice A' m d] w (EqTellsI n m f g w) := by
  have HR := Lib.hid hrd; have HR' := Lib.hid hrd'; clear hrd hrd'
  by_cases hnm : n = m
  · subst hnm
    have hne : ((n : Int) != (n : Int)) = false := by simp
    go_enter Try.func18, Try.ntmps18
    go_wp2_with fail
    go_loopw [5] (fun vi wr => ∃ k : Nat, k ≤ n ∧ vi = .int .i64 k ∧ Hid (Below w.heap.size w wr ∧ ∀ i, i < k → f i = g i)) (fun vi _ => n - (intOf vi).toNat)
    case atStart => exact ⟨0, Nat.zero_le _, rfl, Below.refl _ _, fun i hi => absurd hi (Nat.not_lt_zero _)⟩
    case round =>
      obtain ⟨k, hk, rfl, HI⟩ := hrel
      by_cases hlt : k < n
      · obtain ⟨b, off, rfl, _, hc, hc2⟩ := (HR.out.keep HI.out.1 (Nat.le_refl _)).at hlt
        obtain ⟨b', off', rfl, _, hc', hc2'⟩ := (HR'.out.keep HI.out.1 (Nat.le_refl _)).at hlt
        have hkl : (k : Int) < (n : Int) := by omega
        have hpr : decide ((f k).1 = (g k).1 ∧ (f k).2 = (g k).2) = decide (f k = g k) := by
          congr 1; rw [Prod.ext_iff]
        have HC := Lib.hid (eqItem (f k).1 (f k).2 (g k).1 (g k).2 (wr.drewN 1))
        rw [hpr] at HC
        clear hpr
        generalize hx : (f k).1 = x at *
        generalize hy : (f k).2 = y at *
        generalize hx' : (g k).1 = x' at *
        generalize hy' : (g k).2 = y' at *
        clear hx hy hx' hy'
        have HB := Lib.hid (below_drewN HI.out.1 1)
        cases hfg : decide (f k = g k)
        · rw [hfg] at HC
          have HF := Lib.hid hfg; clear hfg
          go_wp2_with fail
          go_still_tail 8, (by kernel_rfl)
          change wpList _ _ _ _ _ (wr.drewN 1)
          go_wp2_with fail
          refine HC.out.mono ?_
          rintro e w2 ⟨rfl, hb2⟩
          have HB2 := Lib.hid (HB.out.trans (hb2.mono HB.out.size)); clear hb2
          go_wp2_with fail
          go_ret
          exact ⟨false, rfl, ⟨(fun h => by cases h), (fun h => absurd (h.2 k hlt) (of_decide_eq_false HF.out))⟩, HB2.out⟩
        · rw [hfg] at HC
          have HF := Lib.hid hfg; clear hfg
          go_wp2_with fail
          go_still_tail 8, (by kernel_rfl)
          change wpList _ _ _ _ _ (wr.drewN 1)
          go_wp2_with fail
          refine HC.out.mono ?_
          rintro e w2 ⟨rfl, hb2⟩
          have HB2 := Lib.hid (HB.out.trans (hb2.mono HB.out.size)); clear hb2
          go_wp2_with fail
          go_roundw
          case rel => exact ⟨k + 1, hlt, by go_num, HB2.out, fun i hi => by
            rcases Nat.lt_succ_iff_lt_or_eq.1 hi with h | h
            · exact HI.out.2 i h
            · rw [h]; exact of_decide_eq_true HF.out⟩
          case measure => simp [intOf]; omega
      · go_wp2_with fail
        go_ret
        exact ⟨true, rfl, ⟨fun _ => ⟨rfl, fun i hi => HI.out.2 i (by omega)⟩, fun _ => rfl⟩, HI.out.1⟩
  · have hne : ((n : Int) != (m : Int)) = true := by rw [bne_iff_ne]; omega
    go_enter Try.func18, Try.ntmps18
    go_wp2_with fail
    go_ret
    exact ⟨false, rfl, ⟨(fun h => by cases h), (fun h => absurd h.1 hnm)⟩, Below.refl _ _⟩
end Go.Proofs.Ytkklbnheiganlaa
