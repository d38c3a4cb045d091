/-
  The walks of the reference spec.StableItems, and of markItemS and heldItemS.
-/
import Derived.Test.YtkklbnheiganlaaStKy
namespace Go.Proofs.Ytkklbnheiganlaa
open Go.RowKit Go.Proofs
set_option linter.unusedVariables false

/-- What the reference has placed. -/
def PlacedI (rk : Nat → Nat) (f : Nat → Int × Int) (i : Nat) (F : Nat → Value) : Prop := ∀ k, k < i → F (rk k * 2) = .int .i64 (f k).1 ∧ F (rk k * 2 + 1) = .int .i64 (f k).2
theorem PlacedI.step {n i : Nat} {rk : Nat → Nat} {f : Nat → Int × Int} {F : Nat → Value} (hinj : ∀ a b, a < n → b < n → rk a = rk b → a = b) (hi : i < n) (h : PlacedI rk f i F) :
    PlacedI rk f (i + 1) (fun k => if k = rk i * 2 + 1 then .int .i64 (f i).2 else if k = rk i * 2 then .int .i64 (f i).1 else F k) := fun k hk => by
  dsimp only
  rw [if_neg (show ¬ rk k * 2 = rk i * 2 + 1 by omega)]
  by_cases c : k = i
  · subst c; rw [if_pos rfl, if_pos rfl]; exact ⟨rfl, rfl⟩
  · have hne : rk k ≠ rk i := fun q => c (hinj _ _ (by omega) hi q)
    rw [if_neg (show ¬ rk k * 2 = rk i * 2 by omega), if_neg (show ¬ rk k * 2 + 1 = rk i * 2 + 1 by omega), if_neg (show ¬ rk k * 2 + 1 = rk i * 2 by omega)]
    exact h k (by omega)

/-- A list of the reference's: each item at its rank. -/
def OutRI (w : World) (n : Nat) (f : Nat → Int × Int) (rk : Nat → Nat) (e : Ending) (w' : World) : Prop :=
  ∃ (g : Nat) (F : Nat → Value), e = .returned (.slice (some ⟨g, 0, none⟩) n n) ∧ w.heap.size ≤ g ∧ w'.rowIs g 59 (n * 2) F ∧ PlacedI rk f n F ∧ Below w.heap.size w w'

theorem OutRI.rd {w w' : World} {n : Nat} {f : Nat → Int × Int} {rk p : Nat → Nat} {e : Ending} (h : OutRI w n f rk e w') (hp : ∀ k, k < n → p k < n) (hk : ∀ k, k < n → rk (p k) = k) :
    ∃ A c, e = .returned (.slice A n c) ∧ RdI w' w'.heap.size A n (fun k => f (p k)) ∧ Below w.heap.size w w' := by
  obtain ⟨g, F, rfl, hg, hr, hP, hb⟩ := h
  exact ⟨_, n, rfl, rdI_of_row hr (Nat.le_refl _) (fun i hi => by
    have := hP (p i) (hp i hi)
    rw [hk i hi] at this
    exact this), hb⟩



/-- Nothing but block g has changed. -/
structure Only (g : Option Nat) (w w' : World) : Prop where
  bel : ∀ B, (∀ k, g = some k → B ≤ k) → Below B w w'
  size : w'.heap.size = w.heap.size
  other : ∀ b, some b ≠ g → w'.heap[b]? = w.heap[b]?
theorem Only.refl (g : Option Nat) (w : World) : Only g w w := ⟨fun _ _ => Below.refl _ _, rfl, fun _ _ => rfl⟩
theorem Only.set {g : Nat} {w w' : World} (h : Only (some g) w w') (o : Nat) (v : Value) : Only (some g) w (w'.setCell ⟨g, o, none⟩ v) :=
  ⟨fun B hB => (h.bel B hB).setCell (p := ⟨g, o, none⟩) (hB g rfl) _, by simpa [World.setCell] using h.size, fun b hb => by
    rw [heap_setCell_other _ _ _ _ (by simpa using fun q => hb (by rw [q]))]; exact h.other b hb⟩
theorem OwnRow.only {w w' : World} {B : Nat} {t : TypeId} {sz : Nat} {v : Value} {n : Nat} {F : Nat → Value} {g : Option Nat} (h : OwnRow w B t sz v n F) (ho : Only g w w') (hg : v.ownBlock = none ∨ v.ownBlock ≠ g) : OwnRow w' B t sz v n F := by
  rcases h with h | ⟨b, cap, rfl, h1, h2, hr⟩
  · exact .inl h
  · refine .inr ⟨b, cap, rfl, h1, h2, hr.of_block (ho.other b ?_)⟩
    rcases hg with hg | hg
    · simp [Value.ownBlock] at hg
    · exact hg

theorem OwnRow.low {w : World} {B : Nat} {t : TypeId} {sz : Nat} {v : Value} {n : Nat} {F : Nat → Value} (h : OwnRow w B t sz v n F) {k : Nat} (hk : v.ownBlock = some k) : B ≤ k := by
  rcases h with ⟨rfl, _⟩ | ⟨b, cap, rfl, h1, _, _⟩
  · simp [Value.ownBlock] at hk
  · simp only [Value.ownBlock, Option.some.injEq] at hk; omega

/-- What marks write: k, k + 1, .. -/
def markF (k : Nat) (m : Nat) (F : Nat → Value) (j : Nat) : Value := if j < m then .int .i64 ((k + j : Nat) : Int) else F j
theorem markF_step (k m : Nat) (F : Nat → Value) : (fun j => if j = m then Value.int .i64 ((k + m : Nat) : Int) else markF k m F j) = markF k (m + 1) F := by
  funext j
  unfold markF
  by_cases c : j = m
  · subst c; rw [if_pos rfl, if_pos (by omega)]
  · rw [if_neg c]
    by_cases d : j < m
    · rw [if_pos d, if_pos (by omega)]
    · rw [if_neg d, if_neg (by omega)]

/-- A list whose memory is marked. -/
def Marks (w : World) (B : Nat) (t : TypeId) (sz : Nat) (v : Value) (n k : Nat) (e : Ending) (w' : World) : Prop :=
  e = .returned (.int .i64 ((k + n * sz : Nat) : Int)) ∧ (∃ F, OwnRow w' B t sz v n F ∧ ∀ j, j < n * sz → F j = .int .i64 ((k + j : Nat) : Int)) ∧ Only v.ownBlock w w'

set_option maxHeartbeats 2000000 in
theorem markItemS (v : Value) (n B k : Nat) (G : Nat → Value) (w : World) (hn : n ≤ 1048576) (hk : k ≤ 1048576) (h : OwnRow w B 59 2 v n G) :
    Calls Try.prog 19 #[v, .int .i64 k] w (Marks w B 59 2 v n k) := by
  rcases h with ⟨rfl, rfl⟩ | ⟨g, cap, rfl, h1, h2, hr⟩
  · go_enter Try.func19, Try.ntmps19
    go_wp2_with fail
    go_loopw [1, 5] (fun vk vi wr => vi = .int .i64 0 ∧ vk = .int .i64 k ∧ wr = w) (fun _ _ _ => 0)
    case atStart => exact ⟨rfl, rfl, rfl⟩
    case round =>
      obtain ⟨rfl, rfl, rfl⟩ := hrel
      go_wp2_with fail
      go_ret
      exact ⟨rfl, ⟨G, .inl ⟨rfl, rfl⟩, fun j hj => absurd hj (Nat.not_lt_zero _)⟩, Only.refl _ _⟩
  · have HR := Lib.hid hr
    have HGB := Lib.hid (And.intro h1 h2)
    clear hr h1 h2
    go_enter Try.func19, Try.ntmps19
    go_wp2_with fail
    go_loopw [1, 5] (fun vk vi wr => ∃ (i : Nat), i ≤ n ∧ vi = .int .i64 i ∧ vk = .int .i64 ((k : Int) + (i : Int) * 2) ∧ Hid (wr.rowIs g 59 (cap * 2) (markF k (i * 2) G) ∧ Only (some g) w wr)) (fun _ vi _ => n - (intOf vi).toNat)
    case atStart => exact ⟨0, Nat.zero_le _, rfl, by simp, HR.out.congr (fun j _ => by unfold markF; rw [if_neg (by omega)]), Only.refl _ _⟩
    case round =>
      obtain ⟨i, hi, rfl, rfl, HI⟩ := hrel
      by_cases hlt : i < n
      · have hc1 := HI.out.1.cell (show i * 2 < cap * 2 by have := HGB.out.2; omega)
        have hc2 := HI.out.1.cell (show i * 2 + 1 < cap * 2 by have := HGB.out.2; omega)
        have f1 := HI.out.1.frozen (i * 2)
        have f2 := HI.out.1.frozen (i * 2 + 1)
        have hil : (i : Int) < (n : Int) := by omega
        generalize hm1 : markF k (i * 2) G (i * 2) = m1 at hc1
        generalize hm2 : markF k (i * 2) G (i * 2 + 1) = m2 at hc2
        clear hm1 hm2
        have s2 : (wr.setCell ⟨g, i * 2, none⟩ (.int .i64 ((k : Int) + (i : Int) * 2))).cell? ⟨g, i * 2 + 1, none⟩ = some m2 := by
          rw [World.cell?_setCell_other _ _ _ _ (fun q => by have := (Addr.mk.inj q).2.1; omega)]; exact hc2
        go_wp2_with fail
        go_roundw
        case rel => exact ⟨i + 1, hlt, by go_num, by go_num, by
          have e1 := markF_step k (i * 2) G
          have e2 := markF_step k (i * 2 + 1) G
          rw [show (i + 1) * 2 = i * 2 + 1 + 1 by omega, ← e2, ← e1]
          have := (HI.out.1.set (i * 2) (.int .i64 ((k : Int) + (i : Int) * 2))).set (i * 2 + 1) (.int .i64 ((k : Int) + (i : Int) * 2 + 1))
          rw [show ((k + i * 2 : Nat) : Int) = (k : Int) + (i : Int) * 2 by omega, show ((k + (i * 2 + 1) : Nat) : Int) = (k : Int) + (i : Int) * 2 + 1 by omega]
          exact this, (HI.out.2.set _ _).set _ _⟩
        case measure => simp [intOf]; omega
      · obtain rfl : i = n := by omega
        go_wp2_with fail
        go_ret
        exact ⟨by rw [show ((k + i * 2 : Nat) : Int) = (k : Int) + (i : Int) * 2 by omega]; rfl, ⟨_, .inr ⟨g, cap, rfl, HGB.out.1, HGB.out.2, HI.out.1⟩, fun j hj => by unfold markF; rw [if_pos hj]⟩, HI.out.2⟩

set_option maxHeartbeats 2000000 in
theorem heldItemS (v : Value) (n B k : Nat) (F : Nat → Value) (w : World) (hn : n ≤ 1048576) (hk : k ≤ 1048576) (h : OwnRow w B 59 2 v n F) (hF : ∀ j, j < n * 2 → F j = .int .i64 ((k + j : Nat) : Int)) :
    Calls Try.prog 20 #[v, .int .i64 k] w fun e w' => e = .returned (.int .i64 ((k + n * 2 : Nat) : Int)) ∧ w = w' := by
  rcases h with ⟨rfl, rfl⟩ | ⟨g, cap, rfl, h1, h2, hr⟩
  · go_enter Try.func20, Try.ntmps20
    go_wp2_with fail
    go_loop [1, 5] (fun vk vi => vi = .int .i64 0 ∧ vk = .int .i64 k) (fun _ _ => 0)
    case atStart => exact ⟨rfl, rfl⟩
    case round =>
      obtain ⟨rfl, rfl⟩ := hrel
      go_wp2_with fail
      go_ret
      exact ⟨rfl, rfl⟩
  · have HR := Lib.hid hr; have HF := Lib.hid hF
    clear hr h1 hF
    go_enter Try.func20, Try.ntmps20
    go_wp2_with fail
    go_loop [1, 5] (fun vk vi => ∃ (i : Nat), i ≤ n ∧ vi = .int .i64 i ∧ vk = .int .i64 ((k : Int) + (i : Int) * 2)) (fun _ vi => n - (intOf vi).toNat)
    case atStart => exact ⟨0, Nat.zero_le _, rfl, by simp⟩
    case round =>
      obtain ⟨i, hi, rfl, rfl⟩ := hrel
      by_cases hlt : i < n
      · have hc1 := HR.out.cell (show i * 2 < cap * 2 by omega)
        have hc2 := HR.out.cell (show i * 2 + 1 < cap * 2 by omega)
        rw [HF.out _ (by omega), show ((k + i * 2 : Nat) : Int) = (k : Int) + (i : Int) * 2 by omega] at hc1
        rw [HF.out _ (by omega), show ((k + (i * 2 + 1) : Nat) : Int) = (k : Int) + (i : Int) * 2 + 1 by omega] at hc2
        have hil : (i : Int) < (n : Int) := by omega
        have d1 : (((k : Int) + (i : Int) * 2) != ((k : Int) + (i : Int) * 2)) = false := by simp
        have d2 : (((k : Int) + (i : Int) * 2 + 1) != ((k : Int) + (i : Int) * 2 + 1)) = false := by simp
        go_wp2_with fail
        go_round
        case rel => exact ⟨i + 1, hlt, by go_num, by go_num⟩
        case measure => simp [intOf]; omega
      · obtain rfl : i = n := by omega
        go_wp2_with fail
        go_ret
        exact ⟨by first | rfl | (rw [show ((k + i * 2 : Nat) : Int) = (k : Int) + (i : Int) * 2 by omega]; rfl), rfl⟩
end Go.Proofs.Ytkklbnheiganlaa
