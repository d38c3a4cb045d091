/-
  The walks of the laws on sort.Ints and slices.Sort of numbers.
-/
import Derived.Test.YtjddpbamnjdjcaaPlI
import Derived.Test.YtjddpbamnjdjcaaAsc
import Derived.Test.YtjddpbamnjdjcaaSame
import Derived.Test.YtjddpbamnjdjcaaIsS
namespace Go.Proofs.Ytjddpbamnjdjcaa
open Go.RowKit Go.Proofs
set_option linter.unusedVariables false

theorem ascF_of {g : Nat → Int} {n : Nat} (h : AscG leI g n) : AscF g n := fun i h1 h2 => by
  have := h (i - 1) i (by omega) h2
  unfold leI at this
  exact of_decide_eq_true this
theorem asc_of {g : Nat → Int} {n : Nat} (h : AscF g n) : AscG leI g n := fun i j h1 h2 => by
  unfold leI
  exact decide_eq_true (h.le (Nat.le_of_lt h1) h2)
theorem srtI_asc (f : Nat → Int) (n : Nat) : AscF (srtI f n) n := ascF_of (srtF_asc lin_leI 0 f n)
theorem srtI_cnt (f : Nat → Int) (n : Nat) (x : Int) : cnt (fun k => srtI f n k == x) n = cnt (fun k => f k == x) n := srtF_cnt leI 0 f n (fun y => y == x)
theorem srtI_stays {f : Nat → Int} {n : Nat} (h : AscF f n) : ∀ k, k < n → srtI f n k = f k := srtF_stays 0 (asc_of h)
theorem srtI_iff (f : Nat → Int) (n : Nat) : (∀ k, k < n → srtI f n k = f k) ↔ AscF f n := ⟨fun h i h1 h2 => by
  have := srtI_asc f n i h1 h2
  rw [h _ h2, h _ (by omega)] at this
  exact this, srtI_stays⟩

set_option maxHeartbeats 1000000 in
theorem fnSortSortIntsSortsw (w : World) (A : Option Addr) (n c : Nat) (f : Nat → Int) (hf64 : ∀ i, I64 (f i)) (hl : n ≤ c) (hre : c * 8 ≤ 140737488351232) (hrd : Rd w w.heap.size (Value.int .i64) A n f) :
    Calls Try.prog 6 #[.slice A n c] w fun e w' => e = .returned (.bool true) ∧ Below w.heap.size w w' := by
  have hn : n * 8 ≤ 140737488351232 := by omega
  have hnn : n ≤ 4611686018427387903 := by omega
  have HI := Lib.hid (implSortSortInts A n c w.heap.size f w hn hrd)
  have HR := Lib.hid hrd
  clear hrd hf64 hre hl
  go_enter Try.func6, Try.ntmps6
  go_wp2_with fail
  refine HI.out.mono ?_
  intro e w1 h1
  obtain ⟨A1, c1, rfl, hr1, hb1⟩ := h1.rd
  have HA := Lib.hid (ascending n c1 A1 _ w1 _ (by omega) hr1)
  have HN := Lib.hid (fun q => sameNumbersB A A1 n c c1 w.heap.size w1.heap.size f (srtI f n) (w1.drewN q) hnn ((HR.out.keep hb1 (Nat.le_refl _)).drewN q) (hr1.drewN q) (fun x => (srtI_cnt f n x).symm))
  have HB1 := Lib.hid hb1
  clear hr1 hb1 h1
  go_wp2_with fail
  refine HA.out.mono ?_
  rintro e w2 ⟨b2, rfl, hb2, q2, rfl⟩
  obtain rfl : b2 = true := hb2.2 (srtI_asc f n)
  clear hb2
  go_wp2_with fail
  refine (HN.out q2).mono ?_
  rintro e w3 ⟨rfl, q3, rfl⟩
  go_wp2_with fail
  go_ret
  exact ⟨rfl, below_drewN HB1.out (q2 + q3)⟩

set_option maxHeartbeats 1000000 in
theorem fnSortSortAgainw (w : World) (A : Option Addr) (n c : Nat) (f : Nat → Int) (hf64 : ∀ i, I64 (f i)) (hl : n ≤ c) (hre : c * 8 ≤ 140737488351232) (hrd : Rd w w.heap.size (Value.int .i64) A n f) :
    Calls Try.prog 5 #[.slice A n c] w fun e w' => e = .returned (.bool true) ∧ Below w.heap.size w w' := by
  have hn : n * 8 ≤ 140737488351232 := by omega
  have hnn : n ≤ 4611686018427387903 := by omega
  have hee : ((n : Int) == (n : Int)) = true := by simp
  have HI := Lib.hid (implSortSortInts A n c w.heap.size f w hn hrd)
  clear hrd hf64 hre hl
  go_enter Try.func5, Try.ntmps5
  go_wp2_with fail
  refine HI.out.mono ?_
  intro e w1 h1
  obtain ⟨A1, c1, rfl, hr1, hb1⟩ := h1.rd
  have HC := Lib.hid (implSortSortInts A1 n c1 _ (srtI f n) w1 hn hr1)
  have HR1 := Lib.hid hr1
  have HB1 := Lib.hid hb1
  clear hr1 hb1 h1
  go_wp2_with fail
  refine HC.out.mono ?_
  intro e w2 h2
  obtain ⟨A2, c2, rfl, hr2, hb2⟩ := h2.rd
  have HE := Lib.hid (sameInts n n c2 c1 A2 A1 _ _ w2 _ _ hnn hnn hr2 (HR1.out.keep hb2 (Nat.le_refl _)))
  have HB2 := Lib.hid (HB1.out.trans (hb2.mono HB1.out.size))
  clear hr2 hb2 h2
  go_wp2_with fail
  refine HE.out.mono ?_
  rintro e w3 ⟨b3, rfl, hb3, q3, rfl⟩
  obtain rfl : b3 = true := hb3.2 ⟨rfl, srtI_stays (srtI_asc f n)⟩
  clear hb3
  go_wp2_with fail
  go_ret
  exact ⟨rfl, below_drewN HB2.out q3⟩

set_option maxHeartbeats 1000000 in
theorem fnSortsAgreew (w : World) (A : Option Addr) (n c : Nat) (f : Nat → Int) (hf64 : ∀ i, I64 (f i)) (hl : n ≤ c) (hre : c * 8 ≤ 140737488351232) (hrd : Rd w w.heap.size (Value.int .i64) A n f) :
    Calls Try.prog 8 #[.slice A n c] w fun e w' => e = .returned (.bool true) ∧ Below w.heap.size w w' := by
  have hn : n * 8 ≤ 140737488351232 := by omega
  have hnn : n ≤ 4611686018427387903 := by omega
  have hee : ((n : Int) == (n : Int)) = true := by simp
  have HI := Lib.hid (implSortInts A n c w.heap.size f w hn hrd)
  have HR := Lib.hid hrd
  clear hrd hf64 hre hl
  go_enter Try.func8, Try.ntmps8
  go_wp2_with fail
  refine HI.out.mono ?_
  intro e w1 h1
  obtain ⟨A1, c1, rfl, hr1, hb1⟩ := h1.rd
  have HC := Lib.hid (implSortSortInts A n c _ f w1 hn (HR.out.keep hb1 (Nat.le_refl _)))
  have HR1 := Lib.hid hr1
  have HB1 := Lib.hid hb1
  clear hr1 hb1 h1
  go_wp2_with fail
  refine HC.out.mono ?_
  intro e w2 h2
  obtain ⟨A2, c2, rfl, hr2, hb2⟩ := h2.rd
  have HE := Lib.hid (sameInts n n c1 c2 A1 A2 _ _ w2 _ _ hnn hnn (HR1.out.keep hb2 (Nat.le_refl _)) hr2)
  have HB2 := Lib.hid (HB1.out.trans (hb2.mono HB1.out.size))
  clear hr2 hb2 h2
  go_wp2_with fail
  refine HE.out.mono ?_
  rintro e w3 ⟨b3, rfl, hb3, q3, rfl⟩
  obtain rfl : b3 = true := hb3.2 ⟨rfl, fun _ _ => rfl⟩
  clear hb3
  go_wp2_with fail
  go_ret
  exact ⟨rfl, below_drewN HB2.out q3⟩
end Go.Proofs.Ytjddpbamnjdjcaa
