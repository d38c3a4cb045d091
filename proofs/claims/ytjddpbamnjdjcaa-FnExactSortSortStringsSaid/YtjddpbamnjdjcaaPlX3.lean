/-
  The walks of the reference spec.SortStrings, of markStringS and heldStringS.
-/
import Derived.Test.YtjddpbamnjdjcaaPlX
import Derived.Test.YtjddpbamnjdjcaaPlX2
import Derived.Deep.RegionHeld3
namespace Go.Proofs.Ytjddpbamnjdjcaa
open Go.RowKit Go.Proofs
set_option linter.unusedVariables false

def ltS2 (x y : ByteArray) : Bool := ltS x y
theorem swo_ltS : SwoG ltS := ⟨fun a => by unfold ltS; simp [List.lt_irrefl], fun a b c h1 h2 => by unfold ltS at *; simp only [decide_eq_true_eq] at h1 h2 ⊢; exact List.lt_trans h1 h2, fun a b c h1 h2 => by
  unfold ltS at *; simp only [decide_eq_false_iff_not, List.not_lt] at h1 h2 ⊢; exact List.le_trans h1 h2⟩
theorem rank_strL (f : Nat → ByteArray) (n i : Nat) : rankG ltS f n i = rankG (fun x y : List UInt8 => decide (x < y)) (strL f) n i := rfl
theorem srtS_at (f : Nat → ByteArray) {n i : Nat} (hi : i < n) : srtS f n (rankG ltS f n i) = f i := bytes_of_list (by
  have := rankG_sorted swo_str lin_leS (fun a b => by unfold leS; rw [← decide_not]; congr 1) [] (strL f) hi
  rw [rank_strL]
  show (srtF leS [] (strL f) n _).toArray.toList = _
  rw [this]; rfl)

set_option maxHeartbeats 4000000 in
theorem specSortStrings (A : Option Addr) (n c B : Nat) (f : Nat → ByteArray) (hfs : ∀ i, (f i).size ≤ 9223372036854775807) (w : World) (hn : n * 16 ≤ 140737488351232) (hB : B ≤ w.heap.size) (hrd : Rd w B Value.string A n f) :
    Calls Try.prog 46 #[.slice A n c] w (OutE 9 Value.string w n (srtS f n)) := by
  have hmk := run_make_row' (P := Try.prog) 27 9 (.string ByteArray.empty) 16 Try.underlying27 infoStrB rfl .i64 .i64 n (by omega) (by omega)
  have HR := Lib.hid (fun (w' : World) (hb : Below w.heap.size w w') => hrd.keep hb hB)
  have HM := Lib.hid (World.rowIs_made w (.string ByteArray.empty) n 9)
  have HEa := Lib.hid (fun w' (a b : Nat) => earlierSpec (f a) (f b) w' (hfs a) (hfs b))
  clear hrd hB hfs
  go_enter Try.func46, Try.ntmps46
  go_wp2_with fail
  go_loopw [14] (fun vi wr => ∃ (i : Nat) (F : Nat → Value), i ≤ n ∧ vi = .int .i64 i ∧ w.heap.size < wr.heap.size ∧ Hid (Below w.heap.size w wr ∧ wr.rowIs w.heap.size 9 n F ∧ PlacedB (rankG ltS f n) (fun k => .string (f k)) i F)) (fun vi _ => n - (intOf vi).toNat)
  case atStart => exact ⟨0, _, Nat.zero_le _, rfl, by simp, (Below.refl _ _).alloc (Nat.le_refl _) _, HM.out, fun k hk => absurd hk (Nat.not_lt_zero _)⟩
  case round =>
    clear hmk HM
    obtain ⟨i, F, hi, rfl, hsz, HI⟩ := hrel
    obtain ⟨wo, rfl⟩ : ∃ wo : World, wo = wr := ⟨_, rfl⟩
    by_cases hlt : i < n
    · obtain ⟨b, off, rfl, _, hci⟩ := (HR.out wo HI.out.1).at hlt
      generalize hx : f i = x at hci
      have HX := Lib.hid hx; clear hx
      go_wp2_with fail
      go_loopw [21, 6] (fun vj vn w2 => ∃ (j q : Nat), j ≤ n ∧ vj = .int .i64 j ∧ vn = .int .i64 (cnt (fun j => bfB (fun a b => ltS (f a) (f b)) j i) j) ∧ w2 = wo.drewN q) (fun vj _ _ => n - (intOf vj).toNat)
      case atStart => exact ⟨0, 0, Nat.zero_le _, rfl, rfl, rfl⟩
      case round =>
        obtain ⟨j, q, hj, rfl, rfl, rfl⟩ := hrel
        have hcl := cnt_le (fun j => bfB (fun a b => ltS (f a) (f b)) j i) j
        by_cases hjn : j < n
        · obtain ⟨b', off', h', _, hcj⟩ := (HR.out wo HI.out.1).at hjn
          simp only [Option.some.injEq, Addr.mk.injEq, and_true] at h'
          obtain ⟨rfl, rfl⟩ := h'
          have hcs : cnt (fun j => bfB (fun a b => ltS (f a) (f b)) j i) (j + 1) = cnt (fun j => bfB (fun a b => ltS (f a) (f b)) j i) j + (if (ltS (f j) x || (!ltS x (f j) && decide (j < i))) = true then 1 else 0) := by
            show cnt _ j + (if (ltS (f j) (f i) || (!ltS (f i) (f j) && decide (j < i))) = true then 1 else 0) = _
            rw [HX.out]
          have hC := HEa.out (wo.drewN q) j i
          rw [HX.out] at hC
          generalize f j = y at hcj hcs hC
          have HCS := Lib.hid hcs; clear hcs
          generalize cnt (fun j => bfB (fun a b => ltS (f a) (f b)) j i) j = k0 at *
          cases h1 : ltS y x
          · rw [h1] at hC
            have HC := Lib.hid hC; clear hC
            by_cases h2 : y = x
            · subst h2
              have hq : (y.toList == y.toList) = true := by simp
              by_cases h3 : j < i
              · have HE : Hid (_ = k0 + 1) := Lib.hid (HCS.out.trans (by rw [h1, decide_eq_true h3]; rfl)); clear HCS h1
                go_wp2_with fail
                refine HC.out.mono ?_
                rintro e w3 ⟨rfl, q3, rfl⟩
                go_wp2_with fail
                go_roundw
                case rel => exact ⟨j + 1, q + q3, hjn, by go_num, by rw [HE.out]; go_num, rfl⟩
                case measure => simp [intOf]; omega
              · have HE : Hid (_ = k0) := Lib.hid (HCS.out.trans (by rw [h1, decide_eq_false h3]; rfl)); clear HCS h1
                go_wp2_with fail
                refine HC.out.mono ?_
                rintro e w3 ⟨rfl, q3, rfl⟩
                go_wp2_with fail
                go_roundw
                case rel => exact ⟨j + 1, q + q3, hjn, by go_num, by rw [HE.out], rfl⟩
                case measure => simp [intOf]; omega
            · have hq : (y.toList == x.toList) = false := by rw [beq_eq_false_iff_ne]; intro hh; exact h2 (bytes_extB hh)
              have h4 : ltS x y = true := by
                cases h5 : ltS x y
                · exfalso
                  unfold ltS at h1 h5
                  simp only [decide_eq_false_iff_not, List.not_lt] at h1 h5
                  exact h2 (bytes_of_list (List.le_antisymm h5 h1))
                · rfl
              have HE : Hid (_ = k0) := Lib.hid (HCS.out.trans (by rw [h1, h4]; rfl)); clear HCS h2 h1 h4
              go_wp2_with fail
              refine HC.out.mono ?_
              rintro e w3 ⟨rfl, q3, rfl⟩
              go_wp2_with fail
              go_roundw
              case rel => exact ⟨j + 1, q + q3, hjn, by go_num, by rw [HE.out], rfl⟩
              case measure => simp [intOf]; omega
          · rw [h1] at hC
            have HC := Lib.hid hC; clear hC
            have HE : Hid (_ = k0 + 1) := Lib.hid (HCS.out.trans (by rw [h1]; rfl)); clear HCS h1
            go_wp2_with fail
            refine HC.out.mono ?_
            rintro e w3 ⟨rfl, q3, rfl⟩
            go_wp2_with fail
            go_roundw
            case rel => exact ⟨j + 1, q + q3, hjn, by go_num, by rw [HE.out]; go_num, rfl⟩
            case measure => simp [intOf]; omega
        · obtain rfl : j = n := by omega
          have hkl : rankG ltS f j i < j := rankG_lt swo_ltS f hlt
          have hk : cnt (fun j => bfB (fun a b => ltS (f a) (f b)) j i) j = rankG ltS f j i := rfl
          rw [hk]
          clear hk hcl
          have cc := HI.out.2.1.cell hkl
          have ff := HI.out.2.1.frozen (rankG ltS f j i)
          have HB2 := Lib.hid (below_drewN HI.out.1 q)
          have HRw := Lib.hid (rowIs_drewN HI.out.2.1 q)
          generalize hq : rankG ltS f j i = p at *
          have HQ := Lib.hid hq; clear hq
          generalize hq2 : F p = fq at cc
          clear hq2
          go_wp2_with fail
          go_roundw
          case rel => exact ⟨i + 1, _, hlt, by go_num, by simpa [World.setCell] using hsz, HB2.out.setCell (p := ⟨w.heap.size, p, none⟩) (Nat.le_refl _) _, HRw.out.set p _, by rw [← HQ.out, ← HX.out]; exact HI.out.2.2.step (fun a b ha hb => rankG_inj swo_ltS f ha hb) hlt⟩
          case measure => simp [intOf]; omega
    · go_wp2_with fail
      go_ret
      obtain rfl : i = n := by omega
      exact ⟨_, rfl, ⟨F, .inr ⟨w.heap.size, i, rfl, Nat.le_refl _, Nat.le_refl _, by rw [Nat.mul_one]; exact HI.out.2.1⟩, placed_all (fun a ha => rankG_onto swo_ltS f ha) (fun a ha => srtS_at f ha) HI.out.2.2⟩, HI.out.1⟩

set_option maxHeartbeats 400000 in
theorem specSortSortStrings (A : Option Addr) (n c B : Nat) (f : Nat → ByteArray) (hfs : ∀ i, (f i).size ≤ 9223372036854775807) (w : World) (hn : n * 16 ≤ 140737488351232) (hB : B ≤ w.heap.size) (hrd : Rd w B Value.string A n f) :
    Calls Try.prog 21 #[.slice A n c] w (OutE 9 Value.string w n (srtS f n)) := by
  have HC := Lib.hid (specSortStrings A n c B f hfs w hn hB hrd)
  clear hrd hB hfs
  go_enter Try.func21, Try.ntmps21
  go_wp2_with fail
  refine HC.out.mono ?_
  rintro e w1 ⟨v, rfl, h2, h3⟩
  have HA := Lib.hid (And.intro h2 h3)
  clear h2 h3
  go_wp2_with fail
  go_ret
  exact ⟨v, rfl, HA.out.1, HA.out.2⟩

def mkS (k : Nat) : Value := .string (⟨#[109]⟩ ++ mtL k k ByteArray.empty)
set_option maxHeartbeats 2000000 in
theorem markStringS (v : Value) (n B k : Nat) (G : Nat → Value) (w : World) (hn : n ≤ 1048576) (hk : k ≤ 1048576) (h : OwnRow w B 9 1 v n G) (hk0 : 0 < k := by omega) :
    Calls Try.prog 25 #[v, .int .i64 k] w (MarksG mkS w B 9 v n k) := by
  rcases h with ⟨rfl, rfl⟩ | ⟨g, cap, rfl, h1, h2, hr⟩
  · go_enter Try.func25, Try.ntmps25
    go_wp2_with fail
    go_loopw [1, 5] (fun vk vi wr => vi = .int .i64 0 ∧ vk = .int .i64 k ∧ wr = w) (fun _ _ _ => 0)
    case atStart => exact ⟨rfl, rfl, rfl⟩
    case round =>
      obtain ⟨rfl, rfl, rfl⟩ := hrel
      go_wp2_with fail
      go_ret
      exact ⟨rfl, ⟨G, .inl ⟨rfl, rfl⟩, fun j hj => absurd hj (Nat.not_lt_zero _)⟩, OnlyB.refl _ _⟩
  · have HR := Lib.hid hr
    have HGB := Lib.hid (And.intro h1 h2)
    clear hr h1 h2
    go_enter Try.func25, Try.ntmps25
    go_wp2_with fail
    go_loopw [1, 5] (fun vk vi wr => ∃ (i : Nat), i ≤ n ∧ vi = .int .i64 i ∧ vk = .int .i64 ((k : Int) + (i : Int)) ∧ Hid (wr.rowIs g 9 (cap * 1) (markG mkS k i G) ∧ OnlyB (some g) w wr)) (fun _ vi _ => n - (intOf vi).toNat)
    case atStart => exact ⟨0, Nat.zero_le _, rfl, by simp, HR.out.congr (fun j _ => by unfold markG; rw [if_neg (by omega)]), OnlyB.refl _ _⟩
    case round =>
      obtain ⟨i, hi, rfl, rfl, HI⟩ := hrel
      by_cases hlt : i < n
      · have hC := markText (k + i) (by omega) (by omega) wr
        rw [show ((k + i : Nat) : Int) = (k : Int) + (i : Int) by omega] at hC
        have HM : Hid (mkS (k + i) = .string (⟨#[109]⟩ ++ mtL (k + i) (k + i) ByteArray.empty)) := Lib.hid rfl
        generalize (⟨#[109]⟩ ++ mtL (k + i) (k + i) ByteArray.empty : ByteArray) = tx at *
        have HC := Lib.hid hC; clear hC
        have hil : (i : Int) < (n : Int) := by omega
        go_wp2_with fail
        refine HC.out.mono ?_
        rintro e w2 ⟨rfl, hb2⟩
        have r2 := rowIs_below HI.out.1 hb2 HI.out.1.lt
        have hc1 := r2.cell (show i < cap * 1 by have := HGB.out.2; omega)
        have f1 := r2.frozen i
        have HO2 := Lib.hid (HI.out.2.below hb2)
        have HR2 := Lib.hid r2
        clear r2 hb2
        generalize hm1 : markG mkS k i G i = m1 at hc1
        clear hm1
        go_wp2_with fail
        go_roundw
        case rel => exact ⟨i + 1, hlt, by go_num, by go_num, by
          rw [← markG_step, HM.out]
          exact HR2.out.set i _, HO2.out.set _ _⟩
        case measure => simp [intOf]; omega
      · obtain rfl : i = n := by omega
        go_wp2_with fail
        go_ret
        exact ⟨by first | rfl | (rw [show ((k + i : Nat) : Int) = (k : Int) + (i : Int) by omega]; rfl), ⟨_, .inr ⟨g, cap, rfl, HGB.out.1, HGB.out.2, HI.out.1⟩, fun j hj => by unfold markG; rw [if_pos hj]⟩, HI.out.2⟩

set_option maxHeartbeats 2000000 in
theorem heldStringS (v : Value) (n B k : Nat) (F : Nat → Value) (w : World) (hn : n ≤ 1048576) (hk : k ≤ 1048576) (h : OwnRow w B 9 1 v n F) (hF : ∀ j, j < n → F j = mkS (k + j)) (hk0 : 0 < k := by omega) :
    Calls Try.prog 26 #[v, .int .i64 k] w fun e w' => e = .returned (.int .i64 ((k + n : Nat) : Int)) ∧ Below w.heap.size w w' := by
  rcases h with ⟨rfl, rfl⟩ | ⟨g, cap, rfl, h1, h2, hr⟩
  · go_enter Try.func26, Try.ntmps26
    go_wp2_with fail
    go_loop [1, 5] (fun vk vi => vi = .int .i64 0 ∧ vk = .int .i64 k) (fun _ _ => 0)
    case atStart => exact ⟨rfl, rfl⟩
    case round =>
      obtain ⟨rfl, rfl⟩ := hrel
      go_wp2_with fail
      go_ret
      exact ⟨rfl, Below.refl _ _⟩
  · have HR := Lib.hid hr; have HF := Lib.hid hF
    clear hr h1 hF
    go_enter Try.func26, Try.ntmps26
    go_wp2_with fail
    go_loopw [1, 5] (fun vk vi wr => ∃ (i : Nat), i ≤ n ∧ vi = .int .i64 i ∧ vk = .int .i64 ((k : Int) + (i : Int)) ∧ Hid (Below w.heap.size w wr)) (fun _ vi _ => n - (intOf vi).toNat)
    case atStart => exact ⟨0, Nat.zero_le _, rfl, by simp, Below.refl _ _⟩
    case round =>
      obtain ⟨i, hi, rfl, rfl, HI⟩ := hrel
      by_cases hlt : i < n
      · have hc1 := (rowIs_below HR.out HI.out HR.out.lt).cell (show i < cap * 1 by omega)
        rw [HF.out _ hlt] at hc1
        unfold mkS at hc1
        have hC := fun w' => markText (k + i) (by omega) (by omega) w'
        rw [show ((k + i : Nat) : Int) = (k : Int) + (i : Int) by omega] at hC
        generalize (⟨#[109]⟩ ++ mtL (k + i) (k + i) ByteArray.empty : ByteArray) = tx at *
        have HC := Lib.hid hC; clear hC
        have hgl : g < wr.heap.size := Nat.lt_of_lt_of_le HR.out.lt HI.out.size
        have hil : (i : Int) < (n : Int) := by omega
        have d1 : (tx.toList != tx.toList) = false := by simp
        have d2 : (tx.toList == tx.toList) = true := by simp
        go_wp2_with fail
        go_region_held3 (fun w' => w'.cell? ⟨g, i, none⟩ = some (.string tx)) (go_keep)
          (first | (go_at_call 49; refine (HC.out wr.drew).mono ?_; rintro e w2 ⟨rfl, hb2⟩; have q0 : w2.cell? ⟨g, i, none⟩ = some (.string tx) := (hb2.cell (p := ⟨g, i, none⟩) hgl).trans hc1; have HB2 := Lib.hid (HI.out.trans (show Below w.heap.size wr w2 from (below_drewN (Below.refl w.heap.size wr) 1).trans (hb2.mono HI.out.size))); clear hb2))
        go_wp2_with fail
        go_roundw
        case rel => exact ⟨i + 1, hlt, by go_num, by go_num, HB2.out⟩
        case measure => simp [intOf]; omega
      · obtain rfl : i = n := by omega
        go_wp2_with fail
        go_ret
        exact ⟨by first | rfl | (rw [show ((k + i : Nat) : Int) = (k : Int) + (i : Int) by omega]; rfl), HI.out⟩

set_option maxHeartbeats 400000 in
theorem szStringS_big (n c : Nat) (A : Option Addr) (f : Nat → ByteArray) (w : World) (hn : n ≤ 140737488351232) (hbig : 1048576 < n) :
    Calls Try.prog 20 #[.slice A n c, .int .i64 1048576] w fun e w' => ∃ r : Int, e = .returned (.int .i64 r) ∧ r < 0 ∧ w = w' := by
  have hz : (1048576 : Int) - (n : Int) < 0 := by omega
  go_enter Try.func20, Try.ntmps20
  go_wp2_with fail
  go_ret
  exact ⟨_, rfl, by omega, rfl⟩
end Go.Proofs.Ytjddpbamnjdjcaa
