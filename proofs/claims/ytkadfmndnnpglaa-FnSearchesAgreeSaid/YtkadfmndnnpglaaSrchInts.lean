/-
  The walks of sort.SearchInts and sort.SearchStrings, of impl's and the reference's functions over them, and of the laws FnSearchInts, FnSearchStrings.
-/
import Derived.Test.YtkadfmndnnpglaaSrch
import Derived.Test.YtkadfmndnnpglaaAsc
import Derived.Test.YtkadfmndnnpglaaEarl
import Derived.Test.YtkadfmndnnpglaaCnt
namespace Go.Proofs.Ytkadfmndnnpglaa
open Go.RowKit Go.Proofs
set_option linter.unusedVariables false

/-- From a world on: what was there, and two boxes behind it, are as they were; the world may have drawn. -/
def Boxed (W0 : World) (_l : List Nat) (w' : World) : Prop := ∃ q, w' = W0.drewN q

set_option maxHeartbeats 1000000 in
theorem searchInts1 (i n c : Nat) (A : Option Addr) (f : Nat → Int) (v : Int) (ba bx B : Nat) (w : World) (hi : i < n) (hrd : Rd w B (Value.int .i64) A n f) (hn : n ≤ 9223372036854775807)
    (ha : w.cell? ⟨ba, 0, none⟩ = some (.slice A n c)) (hx : w.cell? ⟨bx, 0, none⟩ = some (.int .i64 v)) :
    Calls Try.prog 50 (#[.int .i64 i] ++ #[.pointer (some ⟨ba, 0, none⟩), .pointer (some ⟨bx, 0, none⟩)]) w fun e w' => e = .returned (.bool (decide (v ≤ f i))) ∧ ∃ q, w' = w.drewN q := by
  obtain ⟨bb, off, rfl, _, hv⟩ := hrd.at hi
  clear hrd
  generalize f i = y at hv ⊢
  have hiz : (i : Int) < (n : Int) := by omega
  go_enter Try.func50, Try.ntmps50
  go_wp2
  go_quiet (fail)
  go_wp2
  go_ret
  exact ⟨rfl, _, rfl⟩

theorem enters_ints : ∀ args w, (callFunc 50 args).run Try.prog w = .ok (.enter 50 args) w := enters_of Try.func50 (by kernel_rfl) rfl

set_option maxHeartbeats 1000000 in
theorem sortSearchInts (n c : Nat) (A : Option Addr) (f : Nat → Int) (v : Int) (w : World) (hn : n ≤ 9223372036854775807) (hrd : Rd w w.heap.size (Value.int .i64) A n f) :
    Calls Try.prog 39 #[.slice A n c, .int .i64 v] w fun e w' => e = .returned (.int .i64 (srch (fun i => decide (v ≤ f i)) n 0 n []).1) ∧ Below w.heap.size w w' := by
  have hS := search_any 50 #[.pointer (some ⟨w.heap.size, 0, none⟩), .pointer (some ⟨w.heap.size + 1, 0, none⟩)] n (fun i => decide (v ≤ f i)) (Boxed ((w.alloc (.cells #[.slice A n c] 27)).alloc (.cells #[.int .i64 v] 3)))
    ((w.alloc (.cells #[.slice A n c] 27)).alloc (.cells #[.int .i64 v] 3)) (by omega) enters_ints
    (fun l w1 i hi hw => by
      obtain ⟨q, rfl⟩ := hw
      have h2 := cell_new (w.alloc (.cells #[.slice A n c] 27)) (.int .i64 v) 3
      rw [World.size_alloc] at h2
      exact (searchInts1 i n c A f v w.heap.size (w.heap.size + 1) w.heap.size _ hi (((hrd.alloc (Nat.le_refl _) _).alloc (by simp) _).drewN q) hn (cell_alloc _ (cell_new _ _ _)) h2).mono fun e w' ⟨he, q2, hw⟩ => ⟨he, q + q2, by rw [hw, World.drewN_drewN]⟩) ⟨0, rfl⟩
  generalize (srch (fun i => decide (v ≤ f i)) n 0 n []).1 = r at hS ⊢
  have HS := Lib.hid hS; clear hS hrd
  go_enter Try.func39, Try.ntmps39
  go_wp2_with fail
  refine HS.out.mono ?_
  rintro e w' ⟨rfl, q, rfl⟩
  go_wp2_with fail
  go_ret
  exact ⟨rfl, below_drewN (((Below.refl _ _).alloc (Nat.le_refl _) _).alloc (by simp) _) _⟩

set_option maxHeartbeats 1000000 in
theorem searchInts (n c : Nat) (A : Option Addr) (f : Nat → Int) (v : Int) (w : World) (hn : n ≤ 9223372036854775807) (hrd : Rd w w.heap.size (Value.int .i64) A n f) :
    Calls Try.prog 22 #[.slice A n c, .int .i64 v] w fun e w' => e = .returned (.int .i64 (srch (fun i => decide (v ≤ f i)) n 0 n []).1) ∧ Below w.heap.size w w' := by
  have hS := sortSearchInts n c A f v w hn hrd
  generalize (srch (fun i => decide (v ≤ f i)) n 0 n []).1 = r at hS ⊢
  have HS := Lib.hid hS; clear hS hrd
  go_enter Try.func22, Try.ntmps22
  go_wp2_with fail
  refine HS.out.mono ?_
  rintro e w' ⟨rfl, hb⟩
  go_wp2_with fail
  go_ret
  exact ⟨rfl, hb⟩

/-- In an ascending list the place is how many are less. -/
theorem srch_asc {f : Nat → Int} {n : Nat} (v : Int) (h : AscF f n) : (srch (fun i => decide (v ≤ f i)) n 0 n []).1 = cnt (fun i => decide (f i < v)) n := by
  have hc := cnt_first (q := fun i => decide (f i < v)) (n := n) (fun i j hij hj hq => by
    have := h.le hij hj
    simp only [decide_eq_true_eq] at hq ⊢
    omega)
  refine srch_first _ n _ (cnt_le _ _) (fun i hi => ?_) (fun i h1 h2 => ?_)
  · have := (hc i (Nat.lt_of_lt_of_le hi (cnt_le _ _))).2 hi
    simp only [decide_eq_true_eq] at this
    exact decide_eq_false (by omega)
  · have h3 := hc i h2
    have : ¬ (decide (f i < v) = true) := fun hh => by have := h3.1 hh; omega
    simp only [decide_eq_true_eq] at this
    exact decide_eq_true (by omega)

/-- A number, and whatever else. -/
def SomeFound (r : Nat) (w : World) (e : Ending) (w' : World) : Prop := ∃ z : Bool, e = .returned (.tuple #[.int .i64 r, .bool z]) ∧ w = w'

set_option maxHeartbeats 1000000 in
theorem specBinarySearchInts (n c : Nat) (A : Option Addr) (f : Nat → Int) (v : Int) (w : World) (B : Nat) (hn : n ≤ 9223372036854775807) (hrd : Rd w B (Value.int .i64) A n f) :
    Calls Try.prog 40 #[.slice A n c, .int .i64 v] w (SomeFound (cnt (fun i => decide (f i < v)) n) w) := by
  generalize hr : cnt (fun i => decide (f i < v)) n = r
  have HC := Lib.hid hr; clear hr
  have HR := Lib.hid hrd; clear hrd
  go_enter Try.func40, Try.ntmps40
  go_wp2
  go_loop [6, 7, 12] (fun s6 s7 vi => ∃ (k m : Nat) (z : Bool), k ≤ n ∧ m ≤ k ∧ vi = .int .i64 k ∧ s6 = .int .i64 m ∧ s7 = .bool z ∧ Hid (m = cnt (fun i => decide (f i < v)) k)) (fun _ _ vi => n - (intOf vi).toNat)
  case atStart => exact ⟨0, 0, false, Nat.zero_le _, Nat.le_refl _, rfl, rfl, rfl, show 0 = cnt _ 0 from rfl⟩
  case round =>
    obtain ⟨k, m, z, hk, hmk, rfl, rfl, rfl, HI⟩ := hrel
    by_cases hlt : k < n
    · obtain ⟨b, off, rfl, _, hc⟩ := HR.out.at hlt
      have HN := Lib.hid (show cnt (fun i => decide (f i < v)) (k + 1) = m + if decide (f k < v) then 1 else 0 by rw [HI.out]; rfl)
      generalize f k = y at hc HN
      by_cases hy : y < v
      · cases z
        all_goals
          go_wp2
          go_round
          case rel => exact ⟨k + 1, m + 1, _, hlt, by omega, by go_num, by go_num, rfl, by rw [HN.out, decide_eq_true hy]; rfl⟩
          case measure => simp [intOf]; omega
      · cases z
        all_goals
          go_wp2
          go_round
          case rel => exact ⟨k + 1, m, _, hlt, by omega, by go_num, rfl, rfl, by rw [HN.out, decide_eq_false (by omega)]; rfl⟩
          case measure => simp [intOf]; omega
    · obtain rfl : k = n := by omega
      go_wp2
      go_ret2
      exact ⟨z, by rw [← HC.out, ← HI.out]; rfl, rfl⟩

set_option maxHeartbeats 1000000 in
theorem specSearchInts (n c : Nat) (A : Option Addr) (f : Nat → Int) (v : Int) (w : World) (B : Nat) (hn : n ≤ 9223372036854775807) (hrd : Rd w B (Value.int .i64) A n f) :
    Calls Try.prog 23 #[.slice A n c, .int .i64 v] w fun e w' => e = .returned (.int .i64 (cnt (fun i => decide (f i < v)) n)) ∧ w = w' := by
  have hS := fun w hrd => specBinarySearchInts n c A f v w B hn hrd
  generalize cnt (fun i => decide (f i < v)) n = r at hS ⊢
  have HS := Lib.hid (hS w hrd); clear hS hrd
  go_enter Try.func23, Try.ntmps23
  go_wp2_with fail
  refine HS.out.mono ?_
  rintro e w' ⟨z, rfl, rfl⟩
  go_wp2_with fail
  go_ret
  exact ⟨rfl, rfl⟩

set_option maxHeartbeats 1000000 in
theorem fnSearchIntsw (w : World) (A : Option Addr) (n c : Nat) (f : Nat → Int) (hf64 : ∀ i, I64 (f i)) (hl : n ≤ c) (hre : c * 8 ≤ 140737488351232) (hrd : Rd w w.heap.size (Value.int .i64) A n f) (v : Int) (hv : I64 v) :
    Calls Try.prog 7 #[.slice A n c, .int .i64 v] w fun e w' => e = .returned (.bool true) ∧ Below w.heap.size w w' := by
  have hn : n ≤ 140737488351232 := by omega
  have H0 := Lib.hid (ascending n c A f w w.heap.size (by omega) hrd)
  have H1 := Lib.hid (fun q => searchInts n c A f v (w.drewN q) (by omega) (hrd.drewN q))
  have H2 := Lib.hid (fun w' q (hb : Below w.heap.size (w.drewN q) w') => specSearchInts n c A f v w' w.heap.size (by omega) ((hrd.drewN q).keep hb (Nat.le_refl _)))
  clear hrd hre hl hf64 hv
  go_enter Try.func7, Try.ntmps7
  go_wp2_with fail
  refine H0.out.mono ?_
  rintro e w' ⟨b, rfl, hb, q, rfl⟩
  have HB := Lib.hid hb; clear hb
  cases b with
  | false =>
    go_wp2_with fail
    go_ret
    exact ⟨rfl, below_drewN (Below.refl _ _) _⟩
  | true =>
    go_wp2_with fail
    refine (H1.out q).mono ?_
    rintro e w1 ⟨rfl, hbl⟩
    rw [srch_asc v (show AscF f n by simpa using HB.out)]
    have hbb : Below w.heap.size w w1 := (below_drewN (Below.refl _ _) q).trans hbl
    have heq : ∀ r : Nat, ((r : Int) == (r : Int)) = true := fun r => by simp
    have h2 := H2.out w1 q hbl
    generalize cnt (fun i => decide (f i < v)) n = r at h2 ⊢
    have HH := Lib.hid h2; have HBB := Lib.hid hbb; clear h2 hbl hbb
    have hr := heq r; clear heq
    go_wp2_with fail
    refine HH.out.mono ?_
    rintro e w2 ⟨rfl, rfl⟩
    go_wp2_with fail
    go_ret
    exact ⟨rfl, HBB.out⟩

/-! ### Strings -/
set_option maxHeartbeats 1000000 in
theorem searchStrings1 (i n c : Nat) (A : Option Addr) (f : Nat → ByteArray) (v : ByteArray) (ba bx B : Nat) (w : World) (hi : i < n) (hrd : Rd w B Value.string A n f) (hn : n ≤ 9223372036854775807)
    (ha : w.cell? ⟨ba, 0, none⟩ = some (.slice A n c)) (hx : w.cell? ⟨bx, 0, none⟩ = some (.string v)) :
    Calls Try.prog 51 (#[.int .i64 i] ++ #[.pointer (some ⟨ba, 0, none⟩), .pointer (some ⟨bx, 0, none⟩)]) w fun e w' => e = .returned (.bool (!ltS (f i) v)) ∧ ∃ q, w' = w.drewN q := by
  obtain ⟨bb, off, rfl, _, hv⟩ := hrd.at hi
  clear hrd
  generalize f i = y at hv ⊢
  have hiz : (i : Int) < (n : Int) := by omega
  have HL := Lib.hid (bytesLess_ltS y v)
  generalize ltS y v = r at HL ⊢
  go_enter Try.func51, Try.ntmps51
  go_wp2
  go_quiet (fail)
  go_wp2
  go_ret
  exact ⟨by rw [← HL.out]; rfl, _, rfl⟩

theorem enters_strings : ∀ args w, (callFunc 51 args).run Try.prog w = .ok (.enter 51 args) w := enters_of Try.func51 (by kernel_rfl) rfl

set_option maxHeartbeats 1000000 in
theorem sortSearchStrings (n c : Nat) (A : Option Addr) (f : Nat → ByteArray) (v : ByteArray) (w : World) (hn : n ≤ 9223372036854775807) (hrd : Rd w w.heap.size Value.string A n f) :
    Calls Try.prog 42 #[.slice A n c, .string v] w fun e w' => e = .returned (.int .i64 (srch (fun i => !ltS (f i) v) n 0 n []).1) ∧ Below w.heap.size w w' := by
  have hS := search_any 51 #[.pointer (some ⟨w.heap.size, 0, none⟩), .pointer (some ⟨w.heap.size + 1, 0, none⟩)] n (fun i => !ltS (f i) v) (Boxed ((w.alloc (.cells #[.slice A n c] 33)).alloc (.cells #[.string v] 9)))
    ((w.alloc (.cells #[.slice A n c] 33)).alloc (.cells #[.string v] 9)) (by omega) enters_strings
    (fun l w1 i hi hw => by
      obtain ⟨q, rfl⟩ := hw
      have h2 := cell_new (w.alloc (.cells #[.slice A n c] 33)) (.string v) 9
      rw [World.size_alloc] at h2
      exact (searchStrings1 i n c A f v w.heap.size (w.heap.size + 1) w.heap.size _ hi (((hrd.alloc (Nat.le_refl _) _).alloc (by simp) _).drewN q) hn (cell_alloc _ (cell_new _ _ _)) h2).mono fun e w' ⟨he, q2, hw⟩ => ⟨he, q + q2, by rw [hw, World.drewN_drewN]⟩) ⟨0, rfl⟩
  generalize (srch (fun i => !ltS (f i) v) n 0 n []).1 = r at hS ⊢
  have HS := Lib.hid hS; clear hS hrd
  go_enter Try.func42, Try.ntmps42
  go_wp2_with fail
  refine HS.out.mono ?_
  rintro e w' ⟨rfl, q, rfl⟩
  go_wp2_with fail
  go_ret
  exact ⟨rfl, below_drewN (((Below.refl _ _).alloc (Nat.le_refl _) _).alloc (by simp) _) _⟩

set_option maxHeartbeats 1000000 in
theorem searchStrings (n c : Nat) (A : Option Addr) (f : Nat → ByteArray) (v : ByteArray) (w : World) (hn : n ≤ 9223372036854775807) (hrd : Rd w w.heap.size Value.string A n f) :
    Calls Try.prog 25 #[.slice A n c, .string v] w fun e w' => e = .returned (.int .i64 (srch (fun i => !ltS (f i) v) n 0 n []).1) ∧ Below w.heap.size w w' := by
  have hS := sortSearchStrings n c A f v w hn hrd
  generalize (srch (fun i => !ltS (f i) v) n 0 n []).1 = r at hS ⊢
  have HS := Lib.hid hS; clear hS hrd
  go_enter Try.func25, Try.ntmps25
  go_wp2_with fail
  refine HS.out.mono ?_
  rintro e w' ⟨rfl, hb⟩
  go_wp2_with fail
  go_ret
  exact ⟨rfl, hb⟩

def SomeFoundQ (r : Nat) (w : World) (e : Ending) (w' : World) : Prop := ∃ z : Bool, e = .returned (.tuple #[.int .i64 r, .bool z]) ∧ ∃ q, w' = w.drewN q

set_option maxHeartbeats 1000000 in
theorem specBinarySearchStrings (n c : Nat) (A : Option Addr) (f : Nat → ByteArray) (hfs : ∀ i, (f i).size ≤ 9223372036854775807) (v : ByteArray) (hv : v.size ≤ 9223372036854775807) (w : World) (B : Nat) (hn : n ≤ 9223372036854775807) (hrd : Rd w B Value.string A n f) :
    Calls Try.prog 43 #[.slice A n c, .string v] w (SomeFoundQ (cnt (fun i => ltS (f i) v) n) w) := by
  generalize hr : cnt (fun i => ltS (f i) v) n = r
  have HC := Lib.hid hr; clear hr
  have HR := Lib.hid hrd; clear hrd
  have HFS := Lib.hid hfs; clear hfs
  go_enter Try.func43, Try.ntmps43
  go_wp2
  go_loopw [6, 7, 12] (fun s6 s7 vi wr => ∃ (k m q : Nat) (z : Bool), k ≤ n ∧ m ≤ k ∧ vi = .int .i64 k ∧ s6 = .int .i64 m ∧ s7 = .bool z ∧ wr = w.drewN q ∧ Hid (m = cnt (fun i => ltS (f i) v) k)) (fun _ _ vi _ => n - (intOf vi).toNat)
  case atStart => exact ⟨0, 0, 0, false, Nat.zero_le _, Nat.le_refl _, rfl, rfl, rfl, rfl, show 0 = cnt _ 0 from rfl⟩
  case round =>
    obtain ⟨k, m, q, z, hk, hmk, rfl, rfl, rfl, rfl, HI⟩ := hrel
    by_cases hlt : k < n
    · obtain ⟨b, off, rfl, _, hc⟩ := HR.out.at hlt
      have HN := Lib.hid (show cnt (fun i => ltS (f i) v) (k + 1) = m + if ltS (f k) v then 1 else 0 by rw [HI.out]; rfl)
      have HE := Lib.hid (earlierSpec (f k) v (w.drewN q) (HFS.out k) hv)
      generalize f k = y at hc HN HE
      cases hy : ltS y v
      all_goals
        rw [hy] at HN HE
        clear hy
        cases z
        all_goals
          go_wp2_with fail
          refine HE.out.mono ?_
          rintro e w' ⟨rfl, q2, rfl⟩
          go_wp2_with fail
          go_roundw
          case rel => first
            | exact ⟨k + 1, m + 1, _, _, hlt, by omega, by go_num, by go_num, rfl, World.drewN_drewN _ _ _, by rw [HN.out]; rfl⟩
            | exact ⟨k + 1, m + 1, _, _, hlt, by omega, by go_num, by go_num, rfl, rfl, by rw [HN.out]; rfl⟩
            | exact ⟨k + 1, m, _, _, hlt, by omega, by go_num, rfl, rfl, World.drewN_drewN _ _ _, by rw [HN.out]; rfl⟩
            | exact ⟨k + 1, m, _, _, hlt, by omega, by go_num, rfl, rfl, rfl, by rw [HN.out]; rfl⟩
          case measure => simp [intOf]; omega
    · obtain rfl : k = n := by omega
      go_wp2
      go_ret2
      exact ⟨z, by rw [← HC.out, ← HI.out]; rfl, _, rfl⟩

set_option maxHeartbeats 1000000 in
theorem specSearchStrings (n c : Nat) (A : Option Addr) (f : Nat → ByteArray) (hfs : ∀ i, (f i).size ≤ 9223372036854775807) (v : ByteArray) (hv : v.size ≤ 9223372036854775807) (w : World) (B : Nat) (hn : n ≤ 9223372036854775807) (hrd : Rd w B Value.string A n f) :
    Calls Try.prog 26 #[.slice A n c, .string v] w fun e w' => e = .returned (.int .i64 (cnt (fun i => ltS (f i) v) n)) ∧ ∃ q, w' = w.drewN q := by
  have hS := specBinarySearchStrings n c A f hfs v hv w B hn hrd
  generalize cnt (fun i => ltS (f i) v) n = r at hS ⊢
  have HS := Lib.hid hS; clear hS hrd hfs
  go_enter Try.func26, Try.ntmps26
  go_wp2_with fail
  refine HS.out.mono ?_
  rintro e w' ⟨z, rfl, q, rfl⟩
  go_wp2_with fail
  go_ret
  exact ⟨rfl, _, rfl⟩

/-- No string is before the one ahead of it. -/
def AscS (f : Nat → ByteArray) (n : Nat) : Prop := ∀ i, 1 ≤ i → i < n → ltS (f i) (f (i - 1)) = false

theorem ltS_false_trans {a b c : ByteArray} (h1 : ltS a b = false) (h2 : ltS b c = false) : ltS a c = false := by
  simp only [ltS, decide_eq_false_iff_not] at *
  exact fun h => h2 (List.lt_of_le_of_lt (List.not_lt.1 h1) h)

theorem AscS.le {f : Nat → ByteArray} {n : Nat} (h : AscS f n) {i j : Nat} (hij : i ≤ j) (hj : j < n) : ltS (f j) (f i) = false := by
  induction j with
  | zero => obtain rfl : i = 0 := by omega
            simp only [ltS, decide_eq_false_iff_not]; exact List.lt_irrefl _
  | succ j ih =>
    rcases Nat.lt_or_ge j i with hh | hh
    · obtain rfl : i = j + 1 := by omega
      simp only [ltS, decide_eq_false_iff_not]; exact List.lt_irrefl _
    · have h1 := ih hh (by omega)
      have h2 := h (j + 1) (by omega) hj
      simp only [Nat.add_sub_cancel] at h2
      exact ltS_false_trans h2 h1

theorem srch_ascS {f : Nat → ByteArray} {n : Nat} (v : ByteArray) (h : AscS f n) : (srch (fun i => !ltS (f i) v) n 0 n []).1 = cnt (fun i => ltS (f i) v) n := by
  have hc := cnt_first (q := fun i => ltS (f i) v) (n := n) (fun i j hij hj hq => by
    have := h.le hij hj
    cases hh : ltS (f i) v with
    | true => rfl
    | false => rw [ltS_false_trans this hh] at hq; cases hq)
  refine srch_first _ n _ (cnt_le _ _) (fun i hi => ?_) (fun i h1 h2 => ?_)
  · have := (hc i (Nat.lt_of_lt_of_le hi (cnt_le _ _))).2 hi
    simp [this]
  · have h3 := hc i h2
    have : ¬ (ltS (f i) v = true) := fun hh => by have := h3.1 hh; omega
    simp [this]

set_option maxHeartbeats 1000000 in
theorem ascendingTexts (n c : Nat) (A : Option Addr) (f : Nat → ByteArray) (hfs : ∀ i, (f i).size ≤ 9223372036854775807) (w : World) (B : Nat) (hn : n ≤ 9223372036854775807) (hrd : Rd w B Value.string A n f) :
    Calls Try.prog 24 #[.slice A n c] w (Tells (AscS f n) w) := by
  have HR := Lib.hid hrd; clear hrd
  have HFS := Lib.hid hfs; clear hfs
  go_enter Try.func24, Try.ntmps24
  go_wp2
  go_loopw [3] (fun vi wr => ∃ k q : Nat, 1 ≤ k ∧ (k ≤ n ∨ k = 1) ∧ vi = .int .i64 k ∧ wr = w.drewN q ∧ Hid (AscS f k)) (fun vi _ => n - (intOf vi).toNat)
  case atStart => exact ⟨1, 0, by omega, .inr rfl, rfl, rfl, fun i h1 h2 => absurd h2 (by omega)⟩
  case round =>
    obtain ⟨k, q, hk, hk2, rfl, rfl, HI⟩ := hrel
    by_cases hlt : k < n
    · obtain ⟨b, off, rfl, _, hc⟩ := HR.out.at (show k - 1 < n by omega)
      obtain ⟨b', off', h', _, hc'⟩ := HR.out.at hlt
      simp only [Option.some.injEq, Addr.mk.injEq, and_true] at h'
      obtain ⟨rfl, rfl⟩ := h'
      have hz : (0 : Int) ≤ (k : Int) - 1 := by omega
      have hzl : (k : Int) - 1 < (n : Int) := by omega
      have hkl : (k : Int) < (n : Int) := by omega
      have hkn : ((k : Int) - 1).toNat = k - 1 := by omega
      have hwr : IntKind.i64.wrap ((k : Int) - 1) = (k : Int) - 1 := IntWalk.i64_in _ (by omega)
      have HE := Lib.hid (fun w => earlierLaws (f k) (f (k - 1)) w (HFS.out k) (HFS.out (k - 1)))
      generalize hx : f (k - 1) = x at hc HE
      generalize hy : f k = y at hc' HE
      have HX := Lib.hid hx; have HY := Lib.hid hy; clear hx hy
      cases hl2 : ltS y x
      · rw [hl2] at HE
        have HL := Lib.hid hl2; clear hl2
        go_wp2_with fail
        go_quiet ((go_at_call 41; exact quiet_more (HE.out _)))
        go_wp2_with fail
        go_roundw
        case rel => exact ⟨k + 1, _, by omega, .inl hlt, by go_num, rfl, fun i a b => by
          rcases Nat.lt_succ_iff_lt_or_eq.1 b with h | h
          · exact HI.out i a h
          · rw [h, HX.out, HY.out]; exact HL.out⟩
        case measure => simp [intOf]; omega
      · rw [hl2] at HE
        have HL := Lib.hid hl2; clear hl2
        go_wp2_with fail
        go_quiet ((go_at_call 41; exact quiet_more (HE.out _)))
        go_wp2_with fail
        go_ret
        exact ⟨false, rfl, ⟨(fun h => by cases h), (fun h => by have := h k hk hlt; rw [HX.out, HY.out, HL.out] at this; cases this)⟩, _, World.drewN_drewN _ _ _⟩
    · go_wp2_with fail
      go_ret
      exact ⟨true, rfl, ⟨fun _ => fun i a b => HI.out i a (by omega), fun _ => rfl⟩, _, rfl⟩

set_option maxHeartbeats 1000000 in
theorem fnSearchStringsw (w : World) (A : Option Addr) (n c : Nat) (f : Nat → ByteArray) (hfs : ∀ i, (f i).size ≤ 9223372036854775807) (hl : n ≤ c) (hre : c * 16 ≤ 140737488351232) (hrd : Rd w w.heap.size Value.string A n f) (v : ByteArray) (hv : v.size ≤ maxLen) :
    Calls Try.prog 8 #[.slice A n c, .string v] w fun e w' => e = .returned (.bool true) ∧ Below w.heap.size w w' := by
  have hn : n ≤ 140737488351232 := by omega
  unfold maxLen at hv
  have H0 := Lib.hid (ascendingTexts n c A f hfs w w.heap.size (by omega) hrd)
  have H1 := Lib.hid (fun q => searchStrings n c A f v (w.drewN q) (by omega) (hrd.drewN q))
  have H2 := Lib.hid (fun w' q (hb : Below w.heap.size (w.drewN q) w') => specSearchStrings n c A f hfs v (by omega) w' w.heap.size (by omega) ((hrd.drewN q).keep hb (Nat.le_refl _)))
  clear hrd hre hl hfs hv
  go_enter Try.func8, Try.ntmps8
  go_wp2_with fail
  refine H0.out.mono ?_
  rintro e w' ⟨b, rfl, hb, q, rfl⟩
  have HB := Lib.hid hb; clear hb
  cases b with
  | false =>
    go_wp2_with fail
    go_ret
    exact ⟨rfl, below_drewN (Below.refl _ _) _⟩
  | true =>
    go_wp2_with fail
    refine (H1.out q).mono ?_
    rintro e w1 ⟨rfl, hbl⟩
    rw [srch_ascS v (show AscS f n by simpa using HB.out)]
    have hbb : Below w.heap.size w w1 := (below_drewN (Below.refl _ _) q).trans hbl
    have heq : ∀ r : Nat, ((r : Int) == (r : Int)) = true := fun r => by simp
    have h2 := H2.out w1 q hbl
    generalize cnt (fun i => ltS (f i) v) n = r at h2 ⊢
    have HH := Lib.hid h2; have HBB := Lib.hid hbb; clear h2 hbl hbb
    have hr := heq r; clear heq
    go_wp2_with fail
    refine HH.out.mono ?_
    rintro e w2 ⟨rfl, q2, rfl⟩
    go_wp2_with fail
    go_ret
    exact ⟨rfl, below_drewN HBB.out _⟩
end Go.Proofs.Ytkadfmndnnpglaa
