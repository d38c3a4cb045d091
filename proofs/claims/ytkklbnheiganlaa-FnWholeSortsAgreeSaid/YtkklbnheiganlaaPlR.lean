/-
  The walks of impl.ends, impl.ReverseInts, impl.CompactInts, impl.CompactRest and impl.ReverseParts.
-/
import Derived.Test.YtkklbnheiganlaaPlI
import Derived.Test.YtkklbnheiganlaaItm
import Derived.Lib.RowBridge
namespace Go.Proofs.Ytkklbnheiganlaa
open Go.RowKit Go.Proofs Go.Sort
set_option linter.unusedVariables false

/-! ### Plain -/
section
variable {α : Type}
theorem listOf_append (f : Nat → α) (a : Nat) : ∀ b, listOf f (a + b) = listOf f a ++ listOf (fun k => f (a + k)) b
  | 0 => by simp [listOf]
  | b + 1 => by rw [← Nat.add_assoc, listOf_succ, listOf_succ, listOf_append f a b, List.append_assoc]
/-- A stretch of a list, turned round. -/
def turnF (h : Nat → α) (i j : Nat) (d : α) (k : Nat) : α := if i ≤ k ∧ k < j then (listOf (fun k => h (i + k)) (j - i)).reverse.getD (k - i) d else h k
theorem turnF_cnt (h : Nat → α) {i j n : Nat} (d : α) (hij : i ≤ j) (hj : j ≤ n) (q : α → Bool) : cnt (fun k => q (turnF h i j d k)) n = cnt (fun k => q (h k)) n := by
  rw [cnt_list, cnt_list]
  have hn : n = i + ((j - i) + (n - j)) := by omega
  rw [hn, listOf_append, listOf_append, listOf_append (f := h), listOf_append (f := fun k => h (i + k))]
  have e1 : listOf (turnF h i j d) i = listOf h i := listOf_congr fun k hk => by unfold turnF; rw [if_neg (by omega)]
  have e3 : listOf (fun k => turnF h i j d (i + (j - i + k))) (n - j) = listOf (fun k => h (i + (j - i + k))) (n - j) := listOf_congr fun k hk => by unfold turnF; rw [if_neg (by omega)]
  have e2 : listOf (fun k => turnF h i j d (i + k)) (j - i) = (listOf (fun k => h (i + k)) (j - i)).reverse := by
    have := listOf_getD (listOf (fun k => h (i + k)) (j - i)).reverse d
    rw [List.length_reverse, listOf_len] at this
    rw [← this]
    exact listOf_congr fun k hk => by unfold turnF; rw [if_pos (by omega), Nat.add_sub_cancel_left]
  rw [e1, e2, e3]
  simp only [List.countP_append, List.countP_reverse]
end

theorem rowIs_put_at {α : Type} [Inhabited α] (enc : α → Value) {w : World} {g len : Nat} {t : TypeId} {F : Nat → Value} (h : w.rowIs g t len F) (off : Nat) (d : Array α) (m : Nat) :
    (putRow enc (Sort.ahead w m) g off d).rowIs g t len (fun k => if off ≤ k ∧ k < off + d.size then enc d[k - off]! else F k) := by
  obtain ⟨cur, hg, hs, hF⟩ := h
  refine ⟨putCells enc off d cur, ?_, by simp [putCells, hs], fun i hi => ?_⟩
  · simp [putRow, mapBlock, Sort.ahead, Array.getElem?_modify, hg, onCells]
  · have := hF i hi
    simp only [putCells, Array.getElem?_mapIdx, this, Option.map_some]
theorem below_put_at {α : Type} [Inhabited α] (enc : α → Value) (w : World) (g off : Nat) (d : Array α) (m : Nat) : Below g w (putRow enc (Sort.ahead w m) g off d) := by
  refine ⟨rfl, rfl, rfl, by simp, fun k hk => ?_⟩
  have : g ≠ k := by omega
  simp [putRow, mapBlock, Sort.ahead, Array.getElem?_modify, this]

/-! ### The walks -/
/-- Two numbers, the lesser one first, at most n. -/
def EndsP (w : World) (n : Nat) (e : Ending) (w' : World) : Prop := ∃ i j : Nat, i ≤ j ∧ j ≤ n ∧ e = .returned (.tuple #[.int .i64 (i : Int), .int .i64 (j : Int)]) ∧ Below w.heap.size w w'

theorem tmod_range (a : Int) (n : Nat) : -(n : Int) ≤ a.tmod ((n : Int) + 1) ∧ a.tmod ((n : Int) + 1) ≤ n := by
  have h1 := Int.tmod_lt_of_pos a (show (0 : Int) < (n : Int) + 1 by omega)
  have h2 := Int.lt_tmod_of_pos a (show (0 : Int) < (n : Int) + 1 by omega)
  omega

set_option maxHeartbeats 2000000 in
theorem ends (x y : Int) (n : Nat) (w : World) (hx : I64 x) (hy : I64 y) (hn : n ≤ 140737488351232) :
    Calls Try.prog 57 #[.agg #[.int .i64 x, .int .i64 y], .int .i64 n] w (EndsP w n) := by
  unfold I64 at hx hy
  have HBel := Lib.hid (fun o => (Below.refl w.heap.size w).alloc (Nat.le_refl _) o)
  have t1 := tmod_range x n
  have t2 := tmod_range y n
  have hw1 : IntKind.i64.wrap ((n : Int) + 1) = (n : Int) + 1 := IntWalk.i64_in _ (by omega)
  have hz : ((n : Int) + 1 == 0) = false := by simp; omega
  have hz2 : ¬ ((n : Int) + 1 = 0) := by omega
  have hwx : IntKind.i64.wrap (x.tmod ((n : Int) + 1)) = x.tmod ((n : Int) + 1) := IntWalk.i64_in _ (by omega)
  have hwy : IntKind.i64.wrap (y.tmod ((n : Int) + 1)) = y.tmod ((n : Int) + 1) := IntWalk.i64_in _ (by omega)
  go_enter Try.func57, Try.ntmps57
  go_wp2_with fail
  go_quiet (fail)
  have HB2 := Lib.hid (below_drewN (HBel.out (.cells #[.int .i64 x, .int .i64 y] 78)) nq)
  generalize x.tmod ((n : Int) + 1) = r1 at *
  generalize y.tmod ((n : Int) + 1) = r2 at *
  clear hwx hwy hw1 hz hz2
  generalize (w.alloc (.cells #[.int .i64 x, .int .i64 y] 78)).drewN nq = V at *
  by_cases c1 : r1 < 0
  · by_cases c2 : r2 < 0
    · by_cases c3 : r2 + ((n : Int) + 1) < r1 + ((n : Int) + 1)
      · go_wp2_with fail
        go_ret2
        exact ⟨(r2 + ((n : Int) + 1)).toNat, (r1 + ((n : Int) + 1)).toNat, by omega, by omega, by rw [Int.toNat_of_nonneg (by omega), Int.toNat_of_nonneg (by omega)]; rfl, HB2.out⟩
      · go_wp2_with fail
        go_ret2
        exact ⟨(r1 + ((n : Int) + 1)).toNat, (r2 + ((n : Int) + 1)).toNat, by omega, by omega, by rw [Int.toNat_of_nonneg (by omega), Int.toNat_of_nonneg (by omega)]; rfl, HB2.out⟩
    · by_cases c3 : r2 < r1 + ((n : Int) + 1)
      · go_wp2_with fail
        go_ret2
        exact ⟨r2.toNat, (r1 + ((n : Int) + 1)).toNat, by omega, by omega, by rw [Int.toNat_of_nonneg (by omega), Int.toNat_of_nonneg (by omega)]; rfl, HB2.out⟩
      · go_wp2_with fail
        go_ret2
        exact ⟨(r1 + ((n : Int) + 1)).toNat, r2.toNat, by omega, by omega, by rw [Int.toNat_of_nonneg (by omega), Int.toNat_of_nonneg (by omega)]; rfl, HB2.out⟩
  · by_cases c2 : r2 < 0
    · by_cases c3 : r2 + ((n : Int) + 1) < r1
      · go_wp2_with fail
        go_ret2
        exact ⟨(r2 + ((n : Int) + 1)).toNat, r1.toNat, by omega, by omega, by rw [Int.toNat_of_nonneg (by omega), Int.toNat_of_nonneg (by omega)]; rfl, HB2.out⟩
      · go_wp2_with fail
        go_ret2
        exact ⟨r1.toNat, (r2 + ((n : Int) + 1)).toNat, by omega, by omega, by rw [Int.toNat_of_nonneg (by omega), Int.toNat_of_nonneg (by omega)]; rfl, HB2.out⟩
    · by_cases c3 : r2 < r1
      · go_wp2_with fail
        go_ret2
        exact ⟨r2.toNat, r1.toNat, by omega, by omega, by rw [Int.toNat_of_nonneg (by omega), Int.toNat_of_nonneg (by omega)]; rfl, HB2.out⟩
      · go_wp2_with fail
        go_ret2
        exact ⟨r1.toNat, r2.toNat, by omega, by omega, by rw [Int.toNat_of_nonneg (by omega), Int.toNat_of_nonneg (by omega)]; rfl, HB2.out⟩

/-- What turning parts round may make of a list. -/
def OutMix (w : World) (n : Nat) (f : Nat → Int) (e : Ending) (w' : World) : Prop := ∃ h : Nat → Int, (∀ q : Int → Bool, cnt (fun k => q (h k)) n = cnt (fun k => q (f k)) n) ∧ OutE 3 (Value.int .i64) w n h e w'

set_option maxHeartbeats 4000000 in
theorem implReverseParts (A : Option Addr) (n c B : Nat) (f : Nat → Int) (Ap : Option Addr) (m cp Bp : Nat) (fp : Nat → Int × Int) (w : World) (hn : n * 8 ≤ 140737488351232) (hm : m ≤ 140737488351232) (hrd : Rd w B (Value.int .i64) A n f)
    (hBp : Bp ≤ w.heap.size) (hrp : RdI w Bp Ap m fp) (h64 : ∀ i, I64 (fp i).1 ∧ I64 (fp i).2) :
    Calls Try.prog 42 #[.slice A n c, .slice Ap m cp] w (OutMix w n f) := by
  have HNu := Lib.hid (numbersB A n c B f w hn hrd)
  have HP := Lib.hid (fun w' (hb : Below w.heap.size w w') => hrp.keep hb hBp)
  have HEn := Lib.hid (fun w' k => ends (fp k).1 (fp k).2 n w' (h64 k).1 (h64 k).2 (by omega))
  have HEm := Lib.hid (fun (w1 : World) a cap => Try.slices_Reverse_int_empty a cap w1)
  clear hrd hrp hBp h64
  go_enter Try.func42, Try.ntmps42
  go_wp2_with fail
  refine HNu.out.mono ?_
  rintro e w1 ⟨v1, rfl, ⟨G, hG, hF⟩, hb1⟩
  have H1 := Lib.hid hb1
  rcases hG with ⟨rfl, h0⟩ | ⟨g, cap, rfl, hg, hnc, hr⟩
  · have H0n := Lib.hid h0
    clear h0 hF hb1 HNu
    go_wp2_with fail
    go_loopw [14] (fun vi wr => ∃ i : Nat, i ≤ m ∧ vi = .int .i64 i ∧ Hid (Below w.heap.size w wr)) (fun vi _ => m - (intOf vi).toNat)
    case atStart => exact ⟨0, Nat.zero_le _, rfl, H1.out⟩
    case round =>
      obtain ⟨i, hi, rfl, HI⟩ := hrel
      by_cases hlt : i < m
      · obtain ⟨b, off, rfl, _, hc1, hc2⟩ := (HP.out wr HI.out).at hlt
        have hE := fun w' => HEn.out w' i
        rw [H0n.out] at hE
        generalize (fp i).1 = x at *
        generalize (fp i).2 = y at *
        have HE := Lib.hid hE; clear hE
        go_wp2_with fail
        refine (HE.out _).mono ?_
        rintro e w2 ⟨a, b2, hab, hb0, rfl, hb2⟩
        obtain rfl : b2 = 0 := by omega
        obtain rfl : a = 0 := by omega
        have HB2 := Lib.hid ((HI.out.alloc HI.out.size (.cells #[.int .i64 x, .int .i64 y] 78)).trans (hb2.mono (by have := HI.out.size; simp; omega)))
        clear hb2 hab hb0
        go_wp2_with fail
        refine (HEm.out _ _ _).mono ?_
        rintro e w3 ⟨rfl, rfl⟩
        go_wp2_with fail
        go_roundw
        case rel => exact ⟨i + 1, hlt, by go_num, HB2.out⟩
        case measure => simp [intOf]; omega
      · go_wp2_with fail
        go_ret
        exact ⟨f, fun _ => rfl, _, rfl, ⟨fun _ => .bool false, .inl ⟨rfl, H0n.out⟩, fun k hk => absurd hk (by rw [H0n.out]; omega)⟩, HI.out⟩
  · have HF := Lib.hid (And.intro hF hr)
    have HGg := Lib.hid hg
    clear hF hb1 HNu hr hg
    go_wp2_with fail
    go_loopw [14] (fun vi wr => ∃ (i : Nat) (hf : Nat → Int) (F : Nat → Value), i ≤ m ∧ vi = .int .i64 i ∧ g < wr.heap.size ∧ Hid (Below w.heap.size w wr ∧ wr.rowIs g 3 (cap * 1) F ∧ (∀ k, k < n → F k = .int .i64 (hf k)) ∧ ∀ q : Int → Bool, cnt (fun k => q (hf k)) n = cnt (fun k => q (f k)) n)) (fun vi _ => m - (intOf vi).toNat)
    case atStart => exact ⟨0, f, G, Nat.zero_le _, rfl, HF.out.2.lt, H1.out, HF.out.2, fun k hk => HF.out.1 k (by omega), fun _ => rfl⟩
    case round =>
      obtain ⟨i, hf, F, hi, rfl, hgs, HI⟩ := hrel
      by_cases hlt : i < m
      · obtain ⟨b, off, rfl, _, hc1, hc2⟩ := (HP.out wr HI.out.1).at hlt
        have hE := fun w' => HEn.out w' i
        generalize (fp i).1 = x at *
        generalize (fp i).2 = y at *
        have HE := Lib.hid hE; clear hE
        go_wp2_with fail
        refine (HE.out _).mono ?_
        rintro e w2 ⟨a, b2, hab, hb0, rfl, hb2⟩
        have hb3 : Below wr.heap.size wr w2 := ((Below.refl _ _).alloc (Nat.le_refl _) (.cells #[.int .i64 x, .int .i64 y] 78)).trans (hb2.mono (by simp))
        have HB2 := Lib.hid (HI.out.1.trans (hb3.mono HI.out.1.size))
        have HR2 := Lib.hid (rowIs_below HI.out.2.1 hb3 hgs)
        have hgs2 : g < w2.heap.size := Nat.lt_of_lt_of_le hgs hb3.size
        clear hb2 hb3
        have hz1 : (a : Int) ≤ (b2 : Int) := by omega
        have hz2 : (b2 : Int) ≤ (n : Int) := by omega
        have hz3 : (b2 : Int) ≤ (cap : Int) := by omega
        by_cases heq : a = b2
        · subst heq
          by_cases hac : a = cap
          · subst hac
            go_wp2_with fail
            refine (HEm.out _ _ _).mono ?_
            rintro e w3 ⟨rfl, rfl⟩
            go_wp2_with fail
            go_roundw
            case rel => exact ⟨i + 1, hf, F, hlt, by go_num, hgs2, HB2.out, HR2.out, HI.out.2.2.1, HI.out.2.2.2⟩
            case measure => simp [intOf]; omega
          · have hca : ¬ (cap = a) := fun q => hac q.symm
            go_wp2_with fail
            refine (HEm.out _ _ _).mono ?_
            rintro e w3 ⟨rfl, rfl⟩
            go_wp2_with fail
            go_roundw
            case rel => exact ⟨i + 1, hf, F, hlt, by go_num, hgs2, HB2.out, HR2.out, HI.out.2.2.1, HI.out.2.2.2⟩
            case measure => simp [intOf]; omega
        · have hC := Try.slices_Reverse_int g a (cap - a) (listOf (fun k => hf (a + k)) (b2 - a)) w2 (fun u hu => by
            have hu' : u < b2 - a := by simpa [listOf_len] using hu
            refine ⟨?_, HR2.out.frozen _⟩
            rw [HR2.out.cell (by omega), HI.out.2.2.1 _ (by omega)]
            have := listOf_get (f := fun k => hf (a + k)) hu'
            simp [this]) (by rw [listOf_len]; omega)
          rw [listOf_len] at hC
          have HC := Lib.hid hC; clear hC
          have hac : ¬ (a = cap) := by omega
          have hca : ¬ (cap = a) := by omega
          go_wp2_with fail
          refine HC.out.mono ?_
          rintro e w3 ⟨rfl, q3, hw3⟩
          have hl : (listOf (fun k => hf (a + k)) (b2 - a)).reverse.length = b2 - a := by rw [List.length_reverse, listOf_len]
          have HR3 : Hid (w3.rowIs g 3 (cap * 1) (fun k => if a ≤ k ∧ k < a + (listOf (fun k => hf (a + k)) (b2 - a)).reverse.toArray.size then .int .i64 (listOf (fun k => hf (a + k)) (b2 - a)).reverse.toArray[k - a]! else F k)) := Lib.hid (by rw [hw3]; exact rowIs_put_at (Value.int .i64) HR2.out a _ q3)
          have hb3 : Below g w2 w3 := by rw [hw3]; exact below_put_at (Value.int .i64) w2 g a _ q3
          have HB3 := Lib.hid (HB2.out.trans (hb3.mono (Nat.le_trans (by simp) HGg.out)))
          have hgs3 : g < w3.heap.size := Nat.lt_of_lt_of_le hgs2 hb3.size
          have HL := Lib.hid hl
          clear hw3 hb3 hl
          go_wp2_with fail
          go_roundw
          case rel => exact ⟨i + 1, turnF hf a b2 0, _, hlt, by go_num, hgs3, HB3.out, HR3.out, fun k hk => by
            unfold turnF
            by_cases hk2 : a ≤ k ∧ k < b2
            · rw [if_pos hk2, if_pos ⟨hk2.1, by have := HL.out; simp only [List.size_toArray]; omega⟩]
              congr 1
              have := HL.out
              simp [List.getD_eq_getElem?_getD]
            · rw [if_neg hk2, if_neg (fun q => hk2 ⟨q.1, by have := HL.out; have := q.2; simp only [List.size_toArray] at this; omega⟩)]
              exact HI.out.2.2.1 k hk, fun q => by rw [turnF_cnt hf 0 (by omega) (by omega) q]; exact HI.out.2.2.2 q⟩
          case measure => simp [intOf]; omega
      · go_wp2_with fail
        go_ret
        exact ⟨hf, HI.out.2.2.2, _, rfl, ⟨F, .inr ⟨g, cap, rfl, HGg.out, hnc, HI.out.2.1⟩, HI.out.2.2.1⟩, HI.out.1⟩
end Go.Proofs.Ytkklbnheiganlaa
