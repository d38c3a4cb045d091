/-
  The walks of the reference spec.StableItems, and of markItemS and heldItemS.
-/
import Derived.Test.YtkblfcdofgahhaaStKy
namespace Go.Proofs.Ytkblfcdofgahhaa
open Go.RowKit Go.Proofs
set_option linter.unusedVariables false

/-- What the reference has placed. -/
def PlacedI (rk : Nat → Nat) (f : Nat → Int × Int) (i : Nat) (F : Nat → Value) : Prop := ∀ k, k < i → F (rk k * 2) = .int .i64 (f k).1 ∧ F (rk k * 2 + 1) = .int .i64 (f k).2
theorem PlacedI.step {n i : Nat} {rk : Nat → Nat} {f : Nat → Int × Int} {F : Nat → Value} (hinj : ∀ a b, a < n → b < n → rk a = rk b → a = b) (hi : i < n) (h : PlacedI rk f i F) :
    PlacedI rk f (i + 1) (fun k => if k = rk i * 2 + 1 then .int .i64 (f i).2 else if k = rk i * 2 then .int .i64 (f i).1 else F k) := fun k hk => by
  dsimp only
  rw [if_neg (show ¬ rk k * 2 = rk i * 2 + 1 by omega)]
  by_cases c : k = i
  · subst c; rw [if_pos rfl, if_pos rfl]; exact ⟨rfl, rfl⟩
  · have hne : rk k ≠ rk i := fun q => c (hinj _ _ (by omega) hi q)
    rw [if_neg (show ¬ rk k * 2 = rk i * 2 by omega), if_neg (show ¬ rk k * 2 + 1 = rk i * 2 + 1 by omega), if_neg (show ¬ rk k * 2 + 1 = rk i * 2 by omega)]
    exact h k (by omega)

/-- A list of the reference's: each item at its rank. -/
def OutRI (w : World) (n : Nat) (f : Nat → Int × Int) (rk : Nat → Nat) (e : Ending) (w' : World) : Prop :=
  ∃ (g : Nat) (F : Nat → Value), e = .returned (.slice (some ⟨g, 0, none⟩) n n) ∧ w.heap.size ≤ g ∧ w'.rowIs g 42 (n * 2) F ∧ PlacedI rk f n F ∧ Below w.heap.size w w'

theorem OutRI.rd {w w' : World} {n : Nat} {f : Nat → Int × Int} {rk p : Nat → Nat} {e : Ending} (h : OutRI w n f rk e w') (hp : ∀ k, k < n → p k < n) (hk : ∀ k, k < n → rk (p k) = k) :
    ∃ A c, e = .returned (.slice A n c) ∧ RdI w' w'.heap.size A n (fun k => f (p k)) ∧ Below w.heap.size w w' := by
  obtain ⟨g, F, rfl, hg, hr, hP, hb⟩ := h
  exact ⟨_, n, rfl, rdI_of_row hr (Nat.le_refl _) (fun i hi => by
    have := hP (p i) (hp i hi)
    rw [hk i hi] at this
    exact this), hb⟩

set_option maxRecDepth 100000 in
set_option maxHeartbeats 4000000 in
theorem specStableItems (A : Option Addr) (n c B : Nat) (f : Nat → Int × Int) (w : World) (hn : n * 16 ≤ 140737488351232) (hB : B ≤ w.heap.size) (hrd : RdI w B A n f)
    (rk : Nat → Nat) (hrk : ∀ i, i < n → cnt (fun j => bfB (keyT f) j i) n = rk i) (hlt : ∀ i, i < n → rk i < n) (hinj : ∀ a b, a < n → b < n → rk a = rk b → a = b) :
    Calls Try.prog 38 #[.slice A n c] w (OutRI w n f rk) := by
  have hmk := makeItems n (by omega)
  have HR := Lib.hid (fun (w' : World) (hb : Below w.heap.size w w') => hrd.keep hb hB)
  have HK := Lib.hid (And.intro hrk (And.intro hlt hinj))
  have HM := Lib.hid (rowIs_madeItems w n 42)
  clear hrd hrk hlt hinj hB
  go_enter Try.func38, Try.ntmps38
  go_wp2_with fail
  go_loopw [14] (fun vi wr => ∃ (i : Nat) (F : Nat → Value), i ≤ n ∧ vi = .int .i64 i ∧ w.heap.size < wr.heap.size ∧ Hid (Below w.heap.size w wr ∧ wr.rowIs w.heap.size 42 (n * 2) F ∧ PlacedI rk f i F)) (fun vi _ => n - (intOf vi).toNat)
  case atStart => exact ⟨0, _, Nat.zero_le _, rfl, by simp, (Below.refl _ _).alloc (Nat.le_refl _) _, HM.out, fun k hk => absurd hk (Nat.not_lt_zero _)⟩
  case round =>
    clear hmk HM
    obtain ⟨i, F, hi, rfl, hsz, HI⟩ := hrel
    obtain ⟨wo, rfl⟩ : ∃ wo : World, wo = wr := ⟨_, rfl⟩
    by_cases hlt : i < n
    · obtain ⟨b, off, rfl, _, hci, hci2⟩ := (HR.out wo HI.out.1).at hlt
      generalize hx : (f i).1 = x at hci
      generalize hx2 : (f i).2 = x2 at hci2
      have HX := Lib.hid hx; have HX2 := Lib.hid hx2; clear hx hx2
      go_wp2_with fail
      generalize hV : wo.alloc (.cells #[.int .i64 x, .int .i64 x2] 42) = V
      have HV : Hid (Below wo.heap.size wo V ∧ V.heap.size = wo.heap.size + 1 ∧ V.cell? ⟨wo.heap.size, 0, none⟩ = some (.int .i64 x) ∧ V.cell? ⟨wo.heap.size, 1, none⟩ = some (.int .i64 x2)) := Lib.hid (by
        subst hV
        exact ⟨(Below.refl _ _).alloc (Nat.le_refl _) _, by simp, by simp [go_sem], by simp [go_sem]⟩)
      clear hV
      go_loopw [21, 6] (fun vj vn w2 => ∃ (j : Nat), j ≤ n ∧ vj = .int .i64 j ∧ vn = .int .i64 (cnt (fun j => bfB (keyT f) j i) j) ∧ Hid (Below V.heap.size V w2)) (fun vj _ _ => n - (intOf vj).toNat)
      case atStart => exact ⟨0, Nat.zero_le _, rfl, rfl, Below.refl _ _⟩
      case round =>
        obtain ⟨j, hj, rfl, rfl, HJ⟩ := hrel
        have hcl := cnt_le (fun j => bfB (keyT f) j i) j
        have HB2 : Hid (Below w.heap.size w wr) := Lib.hid ((HI.out.1.trans (HV.out.1.mono HI.out.1.size)).trans (HJ.out.mono (Nat.le_trans HI.out.1.size (by have := HV.out.2.1; omega))))
        have v0 : wr.cell? ⟨wo.heap.size, 0, none⟩ = some (.int .i64 x) := (HJ.out.cell (p := ⟨wo.heap.size, 0, none⟩) (by have := HV.out.2.1; simp; omega)).trans HV.out.2.2.1
        have v1 : wr.cell? ⟨wo.heap.size, 1, none⟩ = some (.int .i64 x2) := (HJ.out.cell (p := ⟨wo.heap.size, 1, none⟩) (by have := HV.out.2.1; simp; omega)).trans HV.out.2.2.2
        have hws : wo.heap.size < wr.heap.size := by have := HV.out.2.1; have := HJ.out.size; omega
        by_cases hjn : j < n
        · obtain ⟨b', off', h', _, hcj, hcj2⟩ := (HR.out wr HB2.out).at hjn
          simp only [Option.some.injEq, Addr.mk.injEq, and_true] at h'
          obtain ⟨rfl, rfl⟩ := h'
          have hcs : cnt (fun j => bfB (keyT f) j i) (j + 1) = cnt (fun j => bfB (keyT f) j i) j + (if (decide ((f j).1 < x) || (!decide (x < (f j).1) && decide (j < i))) = true then 1 else 0) := by
            show cnt _ j + (if (decide ((f j).1 < (f i).1) || (!decide ((f i).1 < (f j).1) && decide (j < i))) = true then 1 else 0) = _
            rw [HX.out]
          generalize (f j).1 = y at hcj hcs
          generalize (f j).2 = y2 at hcj2
          have HCS := Lib.hid hcs; clear hcs
          generalize cnt (fun j => bfB (keyT f) j i) j = k0 at *
          have HB3 := Lib.hid (HJ.out.trans (((Below.refl wr.heap.size wr).alloc (Nat.le_refl _) (.cells #[.int .i64 y, .int .i64 y2] 42)).mono HJ.out.size))
          by_cases h1 : y < x
          · have HE : Hid (_ = k0 + 1) := Lib.hid (HCS.out.trans (by rw [decide_eq_true h1]; rfl)); clear HCS
            go_wp2_with fail
            go_roundw
            case rel => exact ⟨j + 1, hjn, by go_num, by rw [HE.out]; go_num, HB3.out⟩
            case measure => simp [intOf]; omega
          · by_cases h2 : y = x
            · subst h2
              have hq : (y == y) = true := by simp
              by_cases h3 : j < i
              · have HE : Hid (_ = k0 + 1) := Lib.hid (HCS.out.trans (by rw [decide_eq_false h1, decide_eq_true h3]; rfl)); clear HCS
                go_wp2_with fail
                go_roundw
                case rel => exact ⟨j + 1, hjn, by go_num, by rw [HE.out]; go_num, HB3.out⟩
                case measure => simp [intOf]; omega
              · have HE : Hid (_ = k0) := Lib.hid (HCS.out.trans (by rw [decide_eq_false h1, decide_eq_false h3]; rfl)); clear HCS
                go_wp2_with fail
                go_roundw
                case rel => exact ⟨j + 1, hjn, by go_num, by rw [HE.out], HB3.out⟩
                case measure => simp [intOf]; omega
            · have hq : (y == x) = false := by simpa using h2
              have HE : Hid (_ = k0) := Lib.hid (HCS.out.trans (by rw [decide_eq_false h1, decide_eq_true (show x < y by omega)]; rfl)); clear HCS h2
              go_wp2_with fail
              go_roundw
              case rel => exact ⟨j + 1, hjn, by go_num, by rw [HE.out], HB3.out⟩
              case measure => simp [intOf]; omega
        · obtain rfl : j = n := by omega
          have hk := HK.out.1 i hlt
          have hkl := HK.out.2.1 i hlt
          have hin := HK.out.2.2
          rw [hk]
          clear hk hcl
          have r2 := rowIs_below (rowIs_below HI.out.2.1 HV.out.1 hsz) HJ.out (by have := HV.out.2.1; omega)
          have cc := r2.cell (show rk i * 2 < j * 2 by omega)
          have cc2 := r2.cell (show rk i * 2 + 1 < j * 2 by omega)
          have ff := r2.frozen (rk i * 2)
          have ff2 := r2.frozen (rk i * 2 + 1)
          have R2 := Lib.hid r2; have HIn := Lib.hid hin; clear r2 hin
          have hsz2 : w.heap.size < wr.heap.size := by omega
          generalize hq : rk i = q at *
          have HQ := Lib.hid hq; clear hq
          generalize hq2 : F (q * 2) = fq at cc
          generalize hq3 : F (q * 2 + 1) = fq2 at cc2
          clear hq2 hq3
          go_wp2_with fail
          refine ⟨⟨i + 1, _, hlt, by go_num, by simpa [World.setCell] using hsz2, (HB2.out.setCell (p := ⟨w.heap.size, q * 2, none⟩) (Nat.le_refl _) _).setCell (p := ⟨w.heap.size, q * 2 + 1, none⟩) (Nat.le_refl _) _, (R2.out.set (q * 2) _).set (q * 2 + 1) _, by rw [← HQ.out, ← HX.out, ← HX2.out]; exact HI.out.2.2.step HIn.out hlt⟩, by simp [intOf]; omega⟩
    · go_wp2_with fail
      go_ret
      obtain rfl : i = n := by omega
      exact ⟨w.heap.size, F, rfl, Nat.le_refl _, HI.out.2.1, HI.out.2.2, HI.out.1⟩

set_option maxHeartbeats 400000 in
theorem specSortStableItems (A : Option Addr) (n c B : Nat) (f : Nat → Int × Int) (w : World) (hn : n * 16 ≤ 140737488351232) (hB : B ≤ w.heap.size) (hrd : RdI w B A n f)
    (rk : Nat → Nat) (hrk : ∀ i, i < n → cnt (fun j => bfB (keyT f) j i) n = rk i) (hlt : ∀ i, i < n → rk i < n) (hinj : ∀ a b, a < n → b < n → rk a = rk b → a = b) :
    Calls Try.prog 16 #[.slice A n c] w (OutRI w n f rk) := by
  have HC := Lib.hid (specStableItems A n c B f w hn hB hrd rk hrk hlt hinj)
  clear hrd hrk hlt hinj hB
  go_enter Try.func16, Try.ntmps16
  go_wp2_with fail
  refine HC.out.mono ?_
  rintro e w1 ⟨g, F, rfl, h1, h2, h3, h4⟩
  have HA := Lib.hid (And.intro h1 (And.intro h2 (And.intro h3 h4)))
  clear h1 h2 h3 h4
  go_wp2_with fail
  go_ret
  exact ⟨g, F, rfl, HA.out.1, HA.out.2.1, HA.out.2.2.1, HA.out.2.2.2⟩
set_option maxHeartbeats 400000 in
theorem specSliceStableItems (A : Option Addr) (n c B : Nat) (f : Nat → Int × Int) (w : World) (hn : n * 16 ≤ 140737488351232) (hB : B ≤ w.heap.size) (hrd : RdI w B A n f)
    (rk : Nat → Nat) (hrk : ∀ i, i < n → cnt (fun j => bfB (keyT f) j i) n = rk i) (hlt : ∀ i, i < n → rk i < n) (hinj : ∀ a b, a < n → b < n → rk a = rk b → a = b) :
    Calls Try.prog 34 #[.slice A n c] w (OutRI w n f rk) := by
  have HC := Lib.hid (specStableItems A n c B f w hn hB hrd rk hrk hlt hinj)
  clear hrd hrk hlt hinj hB
  go_enter Try.func34, Try.ntmps34
  go_wp2_with fail
  refine HC.out.mono ?_
  rintro e w1 ⟨g, F, rfl, h1, h2, h3, h4⟩
  have HA := Lib.hid (And.intro h1 (And.intro h2 (And.intro h3 h4)))
  clear h1 h2 h3 h4
  go_wp2_with fail
  go_ret
  exact ⟨g, F, rfl, HA.out.1, HA.out.2.1, HA.out.2.2.1, HA.out.2.2.2⟩

/-- Nothing but block g has changed. -/
structure Only (g : Option Nat) (w w' : World) : Prop where
  bel : ∀ B, (∀ k, g = some k → B ≤ k) → Below B w w'
  size : w'.heap.size = w.heap.size
  other : ∀ b, some b ≠ g → w'.heap[b]? = w.heap[b]?
theorem Only.refl (g : Option Nat) (w : World) : Only g w w := ⟨fun _ _ => Below.refl _ _, rfl, fun _ _ => rfl⟩
theorem Only.set {g : Nat} {w w' : World} (h : Only (some g) w w') (o : Nat) (v : Value) : Only (some g) w (w'.setCell ⟨g, o, none⟩ v) :=
  ⟨fun B hB => (h.bel B hB).setCell (p := ⟨g, o, none⟩) (hB g rfl) _, by simpa [World.setCell] using h.size, fun b hb => by
    rw [heap_setCell_other _ _ _ _ (by simpa using fun q => hb (by rw [q]))]; exact h.other b hb⟩
theorem OwnRow.only {w w' : World} {B : Nat} {t : TypeId} {sz : Nat} {v : Value} {n : Nat} {F : Nat → Value} {g : Option Nat} (h : OwnRow w B t sz v n F) (ho : Only g w w') (hg : v.ownBlock = none ∨ v.ownBlock ≠ g) : OwnRow w' B t sz v n F := by
  rcases h with h | ⟨b, cap, rfl, h1, h2, hr⟩
  · exact .inl h
  · refine .inr ⟨b, cap, rfl, h1, h2, hr.of_block (ho.other b ?_)⟩
    rcases hg with hg | hg
    · simp [Value.ownBlock] at hg
    · exact hg

theorem OwnRow.low {w : World} {B : Nat} {t : TypeId} {sz : Nat} {v : Value} {n : Nat} {F : Nat → Value} (h : OwnRow w B t sz v n F) {k : Nat} (hk : v.ownBlock = some k) : B ≤ k := by
  rcases h with ⟨rfl, _⟩ | ⟨b, cap, rfl, h1, _, _⟩
  · simp [Value.ownBlock] at hk
  · simp only [Value.ownBlock, Option.some.injEq] at hk; omega

/-- What marks write: k, k + 1, .. -/
def markF (k : Nat) (m : Nat) (F : Nat → Value) (j : Nat) : Value := if j < m then .int .i64 ((k + j : Nat) : Int) else F j
theorem markF_step (k m : Nat) (F : Nat → Value) : (fun j => if j = m then Value.int .i64 ((k + m : Nat) : Int) else markF k m F j) = markF k (m + 1) F := by
  funext j
  unfold markF
  by_cases c : j = m
  · subst c; rw [if_pos rfl, if_pos (by omega)]
  · rw [if_neg c]
    by_cases d : j < m
    · rw [if_pos d, if_pos (by omega)]
    · rw [if_neg d, if_neg (by omega)]

/-- A list whose memory is marked. -/
def Marks (w : World) (B : Nat) (t : TypeId) (sz : Nat) (v : Value) (n k : Nat) (e : Ending) (w' : World) : Prop :=
  e = .returned (.int .i64 ((k + n * sz : Nat) : Int)) ∧ (∃ F, OwnRow w' B t sz v n F ∧ ∀ j, j < n * sz → F j = .int .i64 ((k + j : Nat) : Int)) ∧ Only v.ownBlock w w'

set_option maxHeartbeats 2000000 in
theorem markItemS (v : Value) (n B k : Nat) (G : Nat → Value) (w : World) (hn : n ≤ 1048576) (hk : k ≤ 1048576) (h : OwnRow w B 42 2 v n G) :
    Calls Try.prog 20 #[v, .int .i64 k] w (Marks w B 42 2 v n k) := by
  rcases h with ⟨rfl, rfl⟩ | ⟨g, cap, rfl, h1, h2, hr⟩
  · go_enter Try.func20, Try.ntmps20
    go_wp2_with fail
    go_loopw [1, 5] (fun vk vi wr => vi = .int .i64 0 ∧ vk = .int .i64 k ∧ wr = w) (fun _ _ _ => 0)
    case atStart => exact ⟨rfl, rfl, rfl⟩
    case round =>
      obtain ⟨rfl, rfl, rfl⟩ := hrel
      go_wp2_with fail
      go_ret
      exact ⟨rfl, ⟨G, .inl ⟨rfl, rfl⟩, fun j hj => absurd hj (Nat.not_lt_zero _)⟩, Only.refl _ _⟩
  · have HR := Lib.hid hr
    have HGB := Lib.hid (And.intro h1 h2)
    clear hr h1 h2
    go_enter Try.func20, Try.ntmps20
    go_wp2_with fail
    go_loopw [1, 5] (fun vk vi wr => ∃ (i : Nat), i ≤ n ∧ vi = .int .i64 i ∧ vk = .int .i64 ((k : Int) + (i : Int) * 2) ∧ Hid (wr.rowIs g 42 (cap * 2) (markF k (i * 2) G) ∧ Only (some g) w wr)) (fun _ vi _ => n - (intOf vi).toNat)
    case atStart => exact ⟨0, Nat.zero_le _, rfl, by simp, HR.out.congr (fun j _ => by unfold markF; rw [if_neg (by omega)]), Only.refl _ _⟩
    case round =>
      obtain ⟨i, hi, rfl, rfl, HI⟩ := hrel
      by_cases hlt : i < n
      · have hc1 := HI.out.1.cell (show i * 2 < cap * 2 by have := HGB.out.2; omega)
        have hc2 := HI.out.1.cell (show i * 2 + 1 < cap * 2 by have := HGB.out.2; omega)
        have f1 := HI.out.1.frozen (i * 2)
        have f2 := HI.out.1.frozen (i * 2 + 1)
        have hil : (i : Int) < (n : Int) := by omega
        generalize hm1 : markF k (i * 2) G (i * 2) = m1 at hc1
        generalize hm2 : markF k (i * 2) G (i * 2 + 1) = m2 at hc2
        clear hm1 hm2
        have s2 : (wr.setCell ⟨g, i * 2, none⟩ (.int .i64 ((k : Int) + (i : Int) * 2))).cell? ⟨g, i * 2 + 1, none⟩ = some m2 := by
          rw [World.cell?_setCell_other _ _ _ _ (fun q => by have := (Addr.mk.inj q).2.1; omega)]; exact hc2
        go_wp2_with fail
        go_roundw
        case rel => exact ⟨i + 1, hlt, by go_num, by go_num, by
          have e1 := markF_step k (i * 2) G
          have e2 := markF_step k (i * 2 + 1) G
          rw [show (i + 1) * 2 = i * 2 + 1 + 1 by omega, ← e2, ← e1]
          have := (HI.out.1.set (i * 2) (.int .i64 ((k : Int) + (i : Int) * 2))).set (i * 2 + 1) (.int .i64 ((k : Int) + (i : Int) * 2 + 1))
          rw [show ((k + i * 2 : Nat) : Int) = (k : Int) + (i : Int) * 2 by omega, show ((k + (i * 2 + 1) : Nat) : Int) = (k : Int) + (i : Int) * 2 + 1 by omega]
          exact this, (HI.out.2.set _ _).set _ _⟩
        case measure => simp [intOf]; omega
      · obtain rfl : i = n := by omega
        go_wp2_with fail
        go_ret
        exact ⟨by rw [show ((k + i * 2 : Nat) : Int) = (k : Int) + (i : Int) * 2 by omega]; rfl, ⟨_, .inr ⟨g, cap, rfl, HGB.out.1, HGB.out.2, HI.out.1⟩, fun j hj => by unfold markF; rw [if_pos hj]⟩, HI.out.2⟩

set_option maxHeartbeats 2000000 in
theorem heldItemS (v : Value) (n B k : Nat) (F : Nat → Value) (w : World) (hn : n ≤ 1048576) (hk : k ≤ 1048576) (h : OwnRow w B 42 2 v n F) (hF : ∀ j, j < n * 2 → F j = .int .i64 ((k + j : Nat) : Int)) :
    Calls Try.prog 21 #[v, .int .i64 k] w fun e w' => e = .returned (.int .i64 ((k + n * 2 : Nat) : Int)) ∧ w = w' := by
  rcases h with ⟨rfl, rfl⟩ | ⟨g, cap, rfl, h1, h2, hr⟩
  · go_enter Try.func21, Try.ntmps21
    go_wp2_with fail
    go_loop [1, 5] (fun vk vi => vi = .int .i64 0 ∧ vk = .int .i64 k) (fun _ _ => 0)
    case atStart => exact ⟨rfl, rfl⟩
    case round =>
      obtain ⟨rfl, rfl⟩ := hrel
      go_wp2_with fail
      go_ret
      exact ⟨rfl, rfl⟩
  · have HR := Lib.hid hr; have HF := Lib.hid hF
    clear hr h1 hF
    go_enter Try.func21, Try.ntmps21
    go_wp2_with fail
    go_loop [1, 5] (fun vk vi => ∃ (i : Nat), i ≤ n ∧ vi = .int .i64 i ∧ vk = .int .i64 ((k : Int) + (i : Int) * 2)) (fun _ vi => n - (intOf vi).toNat)
    case atStart => exact ⟨0, Nat.zero_le _, rfl, by simp⟩
    case round =>
      obtain ⟨i, hi, rfl, rfl⟩ := hrel
      by_cases hlt : i < n
      · have hc1 := HR.out.cell (show i * 2 < cap * 2 by omega)
        have hc2 := HR.out.cell (show i * 2 + 1 < cap * 2 by omega)
        rw [HF.out _ (by omega), show ((k + i * 2 : Nat) : Int) = (k : Int) + (i : Int) * 2 by omega] at hc1
        rw [HF.out _ (by omega), show ((k + (i * 2 + 1) : Nat) : Int) = (k : Int) + (i : Int) * 2 + 1 by omega] at hc2
        have hil : (i : Int) < (n : Int) := by omega
        have d1 : (((k : Int) + (i : Int) * 2) != ((k : Int) + (i : Int) * 2)) = false := by simp
        have d2 : (((k : Int) + (i : Int) * 2 + 1) != ((k : Int) + (i : Int) * 2 + 1)) = false := by simp
        go_wp2_with fail
        go_round
        case rel => exact ⟨i + 1, hlt, by go_num, by go_num⟩
        case measure => simp [intOf]; omega
      · obtain rfl : i = n := by omega
        go_wp2_with fail
        go_ret
        exact ⟨by first | rfl | (rw [show ((k + i * 2 : Nat) : Int) = (k : Int) + (i : Int) * 2 by omega]; rfl), rfl⟩
end Go.Proofs.Ytkblfcdofgahhaa
