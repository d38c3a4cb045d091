/-
  The walks of the reference spec.SortInts, of markIntS and heldIntS.
-/
import Derived.Test.YtjddpbamnjdjcaaPlN
import Derived.Test.YtjddpbamnjdjcaaIntS
import Derived.Test.YtjddpbamnjdjcaaMkB
namespace Go.Proofs.Ytjddpbamnjdjcaa
open Go.RowKit Go.Proofs
set_option linter.unusedVariables false

/-- What the reference has placed. -/
def PlacedB (rk : Nat → Nat) (e : Nat → Value) (i : Nat) (F : Nat → Value) : Prop := ∀ k, k < i → F (rk k) = e k
theorem PlacedB.step {n i : Nat} {rk : Nat → Nat} {e F : Nat → Value} (hinj : ∀ a b, a < n → b < n → rk a = rk b → a = b) (hi : i < n) (h : PlacedB rk e i F) : PlacedB rk e (i + 1) (fun k => if k = rk i then e i else F k) := fun k hk => by
  dsimp only
  by_cases c : k = i
  · subst c; rw [if_pos rfl]
  · rw [if_neg (fun q => c (hinj _ _ (by omega) hi q))]; exact h k (by omega)

theorem rankG_onto {α : Type} {lt : α → α → Bool} (S : SwoG lt) (f : Nat → α) {n k : Nat} (hk : k < n) : ∃ i, i < n ∧ rankG lt f n i = k :=
  ⟨_, (stable_perm (fun a b => lt (f a) (f b)) n).1 k hk, rank_of (S.at f) (stable_count (fun a b => lt (f a) (f b)) n) (stable_ord (S.at f) n) hk⟩

def ltI (x y : Int) : Bool := decide (x < y)
theorem swo_ltI : SwoG ltI := swo_int
/-- All that is placed at its rank is the sorted list. -/
theorem placed_all {α : Type} {n : Nat} {rk : Nat → Nat} {enc : α → Value} {f g : Nat → α} {F : Nat → Value} (hon : ∀ k, k < n → ∃ i, i < n ∧ rk i = k) (hg : ∀ i, i < n → g (rk i) = f i) (h : PlacedB rk (fun k => enc (f k)) n F) : ∀ k, k < n → F k = enc (g k) := fun k hk => by
  obtain ⟨i, hi, rfl⟩ := hon k hk
  rw [h i hi, hg i hi]

set_option maxHeartbeats 4000000 in
theorem specSortInts (A : Option Addr) (n c B : Nat) (f : Nat → Int) (w : World) (hn : n * 8 ≤ 140737488351232) (hB : B ≤ w.heap.size) (hrd : Rd w B (Value.int .i64) A n f) :
    Calls Try.prog 43 #[.slice A n c] w (OutE 3 (Value.int .i64) w n (srtI f n)) := by
  have hmk := run_make_row' (P := Try.prog) 22 3 (.int .i64 0) 8 Try.underlying22 infoIntB rfl .i64 .i64 n (by omega) (by omega)
  have HR := Lib.hid (fun (w' : World) (hb : Below w.heap.size w w') => hrd.keep hb hB)
  have HM := Lib.hid (World.rowIs_made w (.int .i64 0) n 3)
  clear hrd hB
  go_enter Try.func43, Try.ntmps43
  go_wp2_with fail
  go_loopw [14] (fun vi wr => ∃ (i : Nat) (F : Nat → Value), i ≤ n ∧ vi = .int .i64 i ∧ w.heap.size < wr.heap.size ∧ Hid (Below w.heap.size w wr ∧ wr.rowIs w.heap.size 3 n F ∧ PlacedB (rankG ltI f n) (fun k => .int .i64 (f k)) i F)) (fun vi _ => n - (intOf vi).toNat)
  case atStart => exact ⟨0, _, Nat.zero_le _, rfl, by simp, (Below.refl _ _).alloc (Nat.le_refl _) _, HM.out, fun k hk => absurd hk (Nat.not_lt_zero _)⟩
  case round =>
    clear hmk HM
    obtain ⟨i, F, hi, rfl, hsz, HI⟩ := hrel
    by_cases hlt : i < n
    · obtain ⟨b, off, rfl, _, hci⟩ := (HR.out wr HI.out.1).at hlt
      generalize hx : f i = x at hci
      have HX := Lib.hid hx; clear hx
      go_wp2_with fail
      go_loop [21, 6] (fun vj vn => ∃ (j : Nat), j ≤ n ∧ vj = .int .i64 j ∧ vn = .int .i64 (cnt (fun j => bfB (fun a b => ltI (f a) (f b)) j i) j)) (fun vj _ => n - (intOf vj).toNat)
      case atStart => exact ⟨0, Nat.zero_le _, rfl, rfl⟩
      case round =>
        obtain ⟨j, hj, rfl, rfl⟩ := hrel
        have hcl := cnt_le (fun j => bfB (fun a b => ltI (f a) (f b)) j i) j
        by_cases hjn : j < n
        · obtain ⟨b', off', h', _, hcj⟩ := (HR.out wr HI.out.1).at hjn
          simp only [Option.some.injEq, Addr.mk.injEq, and_true] at h'
          obtain ⟨rfl, rfl⟩ := h'
          have hcs : cnt (fun j => bfB (fun a b => ltI (f a) (f b)) j i) (j + 1) = cnt (fun j => bfB (fun a b => ltI (f a) (f b)) j i) j + (if (decide (f j < x) || (!decide (x < f j) && decide (j < i))) = true then 1 else 0) := by
            show cnt _ j + (if (decide (f j < f i) || (!decide (f i < f j) && decide (j < i))) = true then 1 else 0) = _
            rw [HX.out]
          generalize f j = y at hcj hcs
          have HCS := Lib.hid hcs; clear hcs
          generalize cnt (fun j => bfB (fun a b => ltI (f a) (f b)) j i) j = k0 at *
          by_cases h1 : y < x
          · have HE : Hid (_ = k0 + 1) := Lib.hid (HCS.out.trans (by rw [decide_eq_true h1]; rfl)); clear HCS
            go_wp2_with fail
            go_round
            case rel => exact ⟨j + 1, hjn, by go_num, by rw [HE.out]; go_num⟩
            case measure => simp [intOf]; omega
          · by_cases h2 : y = x
            · subst h2
              have hq : (y == y) = true := by simp
              by_cases h3 : j < i
              · have HE : Hid (_ = k0 + 1) := Lib.hid (HCS.out.trans (by rw [decide_eq_false h1, decide_eq_true h3]; rfl)); clear HCS
                go_wp2_with fail
                go_round
                case rel => exact ⟨j + 1, hjn, by go_num, by rw [HE.out]; go_num⟩
                case measure => simp [intOf]; omega
              · have HE : Hid (_ = k0) := Lib.hid (HCS.out.trans (by rw [decide_eq_false h1, decide_eq_false h3]; rfl)); clear HCS
                go_wp2_with fail
                go_round
                case rel => exact ⟨j + 1, hjn, by go_num, by rw [HE.out]⟩
                case measure => simp [intOf]; omega
            · have hq : (y == x) = false := by simpa using h2
              have HE : Hid (_ = k0) := Lib.hid (HCS.out.trans (by rw [decide_eq_false h1, decide_eq_true (show x < y by omega)]; rfl)); clear HCS h2
              go_wp2_with fail
              go_round
              case rel => exact ⟨j + 1, hjn, by go_num, by rw [HE.out]⟩
              case measure => simp [intOf]; omega
        · obtain rfl : j = n := by omega
          have hkl : rankG ltI f j i < j := rankG_lt swo_ltI f hlt
          have hk : cnt (fun j => bfB (fun a b => ltI (f a) (f b)) j i) j = rankG ltI f j i := rfl
          rw [hk]
          clear hk hcl
          have cc := HI.out.2.1.cell hkl
          have ff := HI.out.2.1.frozen (rankG ltI f j i)
          generalize hq : rankG ltI f j i = q at *
          have HQ := Lib.hid hq; clear hq
          generalize hq2 : F q = fq at cc
          clear hq2
          go_wp2_with fail
          go_roundw
          case rel => exact ⟨i + 1, _, hlt, by go_num, by simpa [World.setCell] using hsz, HI.out.1.setCell (p := ⟨w.heap.size, q, none⟩) (Nat.le_refl _) _, HI.out.2.1.set q _, by rw [← HQ.out, ← HX.out]; exact HI.out.2.2.step (fun a b ha hb => rankG_inj swo_ltI f ha hb) hlt⟩
          case measure => simp [intOf]; omega
    · go_wp2_with fail
      go_ret
      obtain rfl : i = n := by omega
      exact ⟨_, rfl, ⟨F, .inr ⟨w.heap.size, i, rfl, Nat.le_refl _, Nat.le_refl _, by rw [Nat.mul_one]; exact HI.out.2.1⟩, placed_all (fun a ha => rankG_onto swo_ltI f ha) (fun a ha => rankG_sorted swo_ltI lin_leI (fun a b => by unfold leI ltI; rw [← decide_not]; congr 1; exact propext (by omega)) 0 f ha) HI.out.2.2⟩, HI.out.1⟩

set_option maxHeartbeats 400000 in
theorem specSortSortInts (A : Option Addr) (n c B : Nat) (f : Nat → Int) (w : World) (hn : n * 8 ≤ 140737488351232) (hB : B ≤ w.heap.size) (hrd : Rd w B (Value.int .i64) A n f) :
    Calls Try.prog 14 #[.slice A n c] w (OutE 3 (Value.int .i64) w n (srtI f n)) := by
  have HC := Lib.hid (specSortInts A n c B f w hn hB hrd)
  clear hrd hB
  go_enter Try.func14, Try.ntmps14
  go_wp2_with fail
  refine HC.out.mono ?_
  rintro e w1 ⟨v, rfl, h2, h3⟩
  have HA := Lib.hid (And.intro h2 h3)
  clear h2 h3
  go_wp2_with fail
  go_ret
  exact ⟨v, rfl, HA.out.1, HA.out.2⟩

def mkI (k : Nat) : Value := .int .i64 (k : Int)
set_option maxHeartbeats 2000000 in
theorem markIntS (v : Value) (n B k : Nat) (G : Nat → Value) (w : World) (hn : n ≤ 1048576) (hk : k ≤ 1048576) (h : OwnRow w B 3 1 v n G) :
    Calls Try.prog 18 #[v, .int .i64 k] w (MarksG mkI w B 3 v n k) := by
  rcases h with ⟨rfl, rfl⟩ | ⟨g, cap, rfl, h1, h2, hr⟩
  · go_enter Try.func18, Try.ntmps18
    go_wp2_with fail
    go_loopw [1, 5] (fun vk vi wr => vi = .int .i64 0 ∧ vk = .int .i64 k ∧ wr = w) (fun _ _ _ => 0)
    case atStart => exact ⟨rfl, rfl, rfl⟩
    case round =>
      obtain ⟨rfl, rfl, rfl⟩ := hrel
      go_wp2_with fail
      go_ret
      exact ⟨rfl, ⟨G, .inl ⟨rfl, rfl⟩, fun j hj => absurd hj (Nat.not_lt_zero _)⟩, OnlyB.refl _ _⟩
  · have HR := Lib.hid hr
    have HGB := Lib.hid (And.intro h1 h2)
    clear hr h1 h2
    go_enter Try.func18, Try.ntmps18
    go_wp2_with fail
    go_loopw [1, 5] (fun vk vi wr => ∃ (i : Nat), i ≤ n ∧ vi = .int .i64 i ∧ vk = .int .i64 ((k : Int) + (i : Int)) ∧ Hid (wr.rowIs g 3 (cap * 1) (markG mkI k i G) ∧ OnlyB (some g) w wr)) (fun _ vi _ => n - (intOf vi).toNat)
    case atStart => exact ⟨0, Nat.zero_le _, rfl, by simp, HR.out.congr (fun j _ => by unfold markG; rw [if_neg (by omega)]), OnlyB.refl _ _⟩
    case round =>
      obtain ⟨i, hi, rfl, rfl, HI⟩ := hrel
      by_cases hlt : i < n
      · have hc1 := HI.out.1.cell (show i < cap * 1 by have := HGB.out.2; omega)
        have f1 := HI.out.1.frozen i
        have hil : (i : Int) < (n : Int) := by omega
        generalize hm1 : markG mkI k i G i = m1 at hc1
        clear hm1
        go_wp2_with fail
        go_roundw
        case rel => exact ⟨i + 1, hlt, by go_num, by go_num, by
          rw [← markG_step]
          have := HI.out.1.set i (.int .i64 ((k : Int) + (i : Int)))
          unfold mkI at this ⊢
          rw [show ((k + i : Nat) : Int) = (k : Int) + (i : Int) by omega]
          exact this, HI.out.2.set _ _⟩
        case measure => simp [intOf]; omega
      · obtain rfl : i = n := by omega
        go_wp2_with fail
        go_ret
        exact ⟨by first | rfl | (rw [show ((k + i : Nat) : Int) = (k : Int) + (i : Int) by omega]; rfl), ⟨_, .inr ⟨g, cap, rfl, HGB.out.1, HGB.out.2, HI.out.1⟩, fun j hj => by unfold markG; rw [if_pos hj]⟩, HI.out.2⟩

set_option maxHeartbeats 2000000 in
theorem heldIntS (v : Value) (n B k : Nat) (F : Nat → Value) (w : World) (hn : n ≤ 1048576) (hk : k ≤ 1048576) (h : OwnRow w B 3 1 v n F) (hF : ∀ j, j < n → F j = mkI (k + j)) :
    Calls Try.prog 19 #[v, .int .i64 k] w fun e w' => e = .returned (.int .i64 ((k + n : Nat) : Int)) ∧ Below w.heap.size w w' := by
  rcases h with ⟨rfl, rfl⟩ | ⟨g, cap, rfl, h1, h2, hr⟩
  · go_enter Try.func19, Try.ntmps19
    go_wp2_with fail
    go_loop [1, 5] (fun vk vi => vi = .int .i64 0 ∧ vk = .int .i64 k) (fun _ _ => 0)
    case atStart => exact ⟨rfl, rfl⟩
    case round =>
      obtain ⟨rfl, rfl⟩ := hrel
      go_wp2_with fail
      go_ret
      exact ⟨rfl, Below.refl _ _⟩
  · have HR := Lib.hid hr; have HF := Lib.hid hF
    clear hr h1 hF
    go_enter Try.func19, Try.ntmps19
    go_wp2_with fail
    go_loop [1, 5] (fun vk vi => ∃ (i : Nat), i ≤ n ∧ vi = .int .i64 i ∧ vk = .int .i64 ((k : Int) + (i : Int))) (fun _ vi => n - (intOf vi).toNat)
    case atStart => exact ⟨0, Nat.zero_le _, rfl, by simp⟩
    case round =>
      obtain ⟨i, hi, rfl, rfl⟩ := hrel
      by_cases hlt : i < n
      · have hc1 := HR.out.cell (show i < cap * 1 by omega)
        rw [HF.out _ hlt] at hc1
        unfold mkI at hc1
        rw [show ((k + i : Nat) : Int) = (k : Int) + (i : Int) by omega] at hc1
        have hil : (i : Int) < (n : Int) := by omega
        have d1 : (((k : Int) + (i : Int)) != ((k : Int) + (i : Int))) = false := by simp
        go_wp2_with fail
        go_round
        case rel => exact ⟨i + 1, hlt, by go_num, by go_num⟩
        case measure => simp [intOf]; omega
      · obtain rfl : i = n := by omega
        go_wp2_with fail
        go_ret
        exact ⟨by first | rfl | (rw [show ((k + i : Nat) : Int) = (k : Int) + (i : Int) by omega]; rfl), Below.refl _ _⟩
end Go.Proofs.Ytjddpbamnjdjcaa
