/-
  Lists that are read by index, sorted: order, counts, and that one sorted list is all there is. No program of Go is named here.
-/
import Derived.Test.YtjammaglboehcaaStC
namespace Go.Proofs.Ytjammaglboehcaa
set_option linter.unusedVariables false

/-- A linear order. -/
structure Lin {α : Type} (le : α → α → Bool) : Prop where
  trans : ∀ a b c, le a b = true → le b c = true → le a c = true
  total : ∀ a b, (le a b || le b a) = true
  anti : ∀ a b, le a b = true → le b a = true → a = b

section
variable {α : Type}
def listOf (f : Nat → α) (n : Nat) : List α := (List.range n).map f
theorem listOf_len (f : Nat → α) (n : Nat) : (listOf f n).length = n := by simp [listOf]
theorem listOf_get {f : Nat → α} {n k : Nat} (h : k < n) : (listOf f n)[k]? = some (f k) := by
  unfold listOf; rw [List.getElem?_map, List.getElem?_range h]; rfl
theorem listOf_succ (f : Nat → α) (n : Nat) : listOf f (n + 1) = listOf f n ++ [f n] := by
  unfold listOf; rw [List.range_succ, List.map_append]; rfl
theorem listOf_getD (l : List α) (d : α) : listOf (fun k => l.getD k d) l.length = l := by
  apply List.ext_getElem?
  intro k
  by_cases h : k < l.length
  · rw [listOf_get h, List.getD_eq_getElem?_getD, List.getElem?_eq_getElem h]; rfl
  · rw [List.getElem?_eq_none (by rw [listOf_len]; omega), List.getElem?_eq_none (by omega)]
theorem listOf_congr {f g : Nat → α} {n : Nat} (h : ∀ k, k < n → f k = g k) : listOf f n = listOf g n := by
  unfold listOf
  exact List.map_congr_left fun k hk => h k (List.mem_range.1 hk)
theorem listOf_inj {f g : Nat → α} {n : Nat} (h : listOf f n = listOf g n) : ∀ k, k < n → f k = g k := fun k hk => by
  have h1 := listOf_get (f := f) hk
  rw [h, listOf_get hk] at h1
  exact (Option.some.inj h1).symm
theorem cnt_list (q : α → Bool) (f : Nat → α) : ∀ n, cnt (fun k => q (f k)) n = (listOf f n).countP q
  | 0 => rfl
  | n + 1 => by
    show cnt (fun k => q (f k)) n + _ = _
    rw [cnt_list q f n, listOf_succ, List.countP_append]
    cases h : q (f n) <;> simp [h]

def srt (le : α → α → Bool) (f : Nat → α) (n : Nat) : List α := (listOf f n).mergeSort le
def srtF (le : α → α → Bool) (d : α) (f : Nat → α) (n k : Nat) : α := (srt le f n).getD k d
theorem srt_len (le : α → α → Bool) (f : Nat → α) (n : Nat) : (srt le f n).length = n := by
  unfold srt; rw [List.length_mergeSort, listOf_len]
theorem listOf_srtF (le : α → α → Bool) (d : α) (f : Nat → α) (n : Nat) : listOf (srtF le d f n) n = srt le f n := by
  have := listOf_getD (srt le f n) d
  rw [srt_len] at this
  exact this
def AscG (le : α → α → Bool) (g : Nat → α) (n : Nat) : Prop := ∀ i j, i < j → j < n → le (g i) (g j) = true
theorem ascG_iff {le : α → α → Bool} {g : Nat → α} {n : Nat} : AscG le g n ↔ (listOf g n).Pairwise (fun a b => le a b = true) := by
  rw [List.pairwise_iff_getElem]
  constructor
  · intro h i j hi hj hij
    rw [listOf_len] at hi hj
    have h1 := listOf_get (f := g) hi
    have h2 := listOf_get (f := g) hj
    rw [List.getElem?_eq_getElem (by rw [listOf_len]; exact hi)] at h1
    rw [List.getElem?_eq_getElem (by rw [listOf_len]; exact hj)] at h2
    rw [Option.some.inj h1, Option.some.inj h2]
    exact h i j hij hj
  · intro h i j hij hj
    have := h i j (by rw [listOf_len]; omega) (by rw [listOf_len]; exact hj) hij
    have h1 := listOf_get (f := g) (show i < n by omega)
    have h2 := listOf_get (f := g) hj
    rw [List.getElem?_eq_getElem (by rw [listOf_len]; omega)] at h1
    rw [List.getElem?_eq_getElem (by rw [listOf_len]; exact hj)] at h2
    rw [Option.some.inj h1, Option.some.inj h2] at this
    exact this
theorem srtF_asc {le : α → α → Bool} (L : Lin le) (d : α) (f : Nat → α) (n : Nat) : AscG le (srtF le d f n) n := by
  rw [ascG_iff, listOf_srtF]
  exact List.pairwise_mergeSort L.trans L.total _
theorem srtF_cnt (le : α → α → Bool) (d : α) (f : Nat → α) (n : Nat) (q : α → Bool) : cnt (fun k => q (srtF le d f n k)) n = cnt (fun k => q (f k)) n := by
  rw [cnt_list, cnt_list, listOf_srtF]
  exact (List.mergeSort_perm _ _).countP_eq q
/-- A list in order is what sorting makes of it. -/
theorem srtF_stays {le : α → α → Bool} (d : α) {f : Nat → α} {n : Nat} (h : AscG le f n) : ∀ k, k < n → srtF le d f n k = f k := by
  apply listOf_inj
  rw [listOf_srtF]
  exact List.mergeSort_of_pairwise (ascG_iff.1 h)
theorem asc_unique [DecidableEq α] {le : α → α → Bool} (L : Lin le) {g h : Nat → α} {n : Nat} (hg : AscG le g n) (hh : AscG le h n) (hc : ∀ x, cnt (fun k => decide (g k = x)) n = cnt (fun k => decide (h k = x)) n) : ∀ k, k < n → g k = h k := by
  apply listOf_inj
  refine List.Perm.eq_of_pairwise (le := fun a b => le a b = true) (fun a b _ _ h1 h2 => L.anti a b h1 h2) (ascG_iff.1 hg) (ascG_iff.1 hh) (List.perm_iff_count.2 fun x => ?_)
  have := hc x
  rw [cnt_list (fun y => decide (y = x)) g, cnt_list (fun y => decide (y = x)) h] at this
  have e : (fun y : α => y == x) = fun y => decide (y = x) := by funext y; by_cases c : y = x <;> simp [c]
  unfold List.count
  rw [e]
  exact this
/-- A list in order with the counts of f is what sorting makes of f. -/
theorem srtF_unique [DecidableEq α] {le : α → α → Bool} (L : Lin le) (d : α) {g f : Nat → α} {n : Nat} (hg : AscG le g n) (hc : ∀ x, cnt (fun k => decide (g k = x)) n = cnt (fun k => decide (f k = x)) n) : ∀ k, k < n → g k = srtF le d f n k :=
  asc_unique L hg (srtF_asc L d f n) (fun x => by rw [hc x, srtF_cnt le d f n (fun y => decide (y = x))])
theorem srtF_congr {le : α → α → Bool} (d : α) {g f : Nat → α} {n : Nat} (h : ∀ k, k < n → g k = f k) (k : Nat) : srtF le d g n k = srtF le d f n k := by
  unfold srtF srt; rw [listOf_congr h]

/-- The reference: each element at its rank. -/
def rankG (lt : α → α → Bool) (f : Nat → α) (n i : Nat) : Nat := cnt (fun j => bfB (fun a b => lt (f a) (f b)) j i) n
/-- A strict weak order of elements. -/
structure SwoG (lt : α → α → Bool) : Prop where
  irrefl : ∀ a, lt a a = false
  trans : ∀ a b c, lt a b = true → lt b c = true → lt a c = true
  pass : ∀ a b c, lt b a = false → lt c b = false → lt c a = false
theorem SwoG.at {lt : α → α → Bool} (S : SwoG lt) (f : Nat → α) : Swo (fun a b => lt (f a) (f b)) := ⟨fun i => S.irrefl _, fun _ _ _ h1 h2 => S.trans _ _ _ h1 h2, fun _ _ _ h1 h2 => S.pass _ _ _ h1 h2⟩
theorem rankG_lt {lt : α → α → Bool} (S : SwoG lt) (f : Nat → α) {n i : Nat} (hi : i < n) : rankG lt f n i < n := by
  have hc := stable_count (fun a b => lt (f a) (f b)) n
  obtain ⟨k, hk, e⟩ := hc.onto hi
  have := rank_of (S.at f) hc (stable_ord (S.at f) n) hk
  rw [e] at this
  unfold rankG; rw [this]; exact hk
theorem rankG_inj {lt : α → α → Bool} (S : SwoG lt) (f : Nat → α) {n i j : Nat} (hi : i < n) (hj : j < n) (h : rankG lt f n i = rankG lt f n j) : i = j := by
  have hc := stable_count (fun a b => lt (f a) (f b)) n
  obtain ⟨k, hk, e⟩ := hc.onto hi
  obtain ⟨l, hl, e2⟩ := hc.onto hj
  have h1 := rank_of (S.at f) hc (stable_ord (S.at f) n) hk
  have h2 := rank_of (S.at f) hc (stable_ord (S.at f) n) hl
  rw [e] at h1
  rw [e2] at h2
  unfold rankG at h
  rw [h1, h2] at h
  rw [← e, ← e2, h]
/-- What stands at rank k is the k-th of the sorted list, where the order parts all that differ. -/
theorem rankG_sorted [DecidableEq α] {lt le : α → α → Bool} (S : SwoG lt) (L : Lin le) (hle : ∀ a b, le a b = !lt b a) (d : α) (f : Nat → α) {n i : Nat} (hi : i < n) : srtF le d f n (rankG lt f n i) = f i := by
  have hc := stable_count (fun a b => lt (f a) (f b)) n
  have ho := stable_ord (S.at f) n
  have hp := (stable_perm (fun a b => lt (f a) (f b)) n).1
  have hr := fun k hk => rank_of (S.at f) (k := k) hc ho hk
  obtain ⟨k, hk, e⟩ := hc.onto hi
  generalize stable (tabM fun a b => lt (f a) (f b)) n (fun k => k) = p at *
  have hu := srtF_unique L d (g := fun k => f (p k)) (f := f) (n := n) (fun x y hxy hy => by
    rw [hle]
    rcases ho x y (Nat.zero_le _) hxy hy with h | ⟨h, _⟩
    · dsimp only at h
      cases h2 : lt (f (p y)) (f (p x))
      · rfl
      · have := S.trans _ _ _ h h2; rw [S.irrefl] at this; cases this
    · dsimp only at h; rw [h]; rfl) (fun x => hc (fun k => decide (f k = x)))
  have h1 := hr k hk
  rw [e] at h1
  unfold rankG
  rw [h1, ← hu k hk, e]
end
theorem lin_int : Lin (fun x y : Int => decide (x ≤ y)) := ⟨fun a b c h1 h2 => by simp at h1 h2 ⊢; omega, fun a b => by simp; omega, fun a b h1 h2 => by simp at h1 h2; omega⟩
theorem swo_int : SwoG (fun x y : Int => decide (x < y)) := ⟨fun a => by simp, fun a b c h1 h2 => by simp at h1 h2 ⊢; omega, fun a b c h1 h2 => by simp at h1 h2 ⊢; omega⟩
theorem lin_str : Lin (fun x y : List UInt8 => decide (x ≤ y)) := ⟨fun a b c h1 h2 => by simp only [decide_eq_true_eq] at h1 h2 ⊢; exact List.le_trans h1 h2, fun a b => by simp only [Bool.or_eq_true, decide_eq_true_eq]; exact List.le_total a b, fun a b h1 h2 => by simp only [decide_eq_true_eq] at h1 h2; exact List.le_antisymm h1 h2⟩
theorem swo_str : SwoG (fun x y : List UInt8 => decide (x < y)) := ⟨fun a => by simp [List.lt_irrefl], fun a b c h1 h2 => by simp only [decide_eq_true_eq] at h1 h2 ⊢; exact List.lt_trans h1 h2, fun a b c h1 h2 => by
  simp only [decide_eq_false_iff_not, List.not_lt] at h1 h2 ⊢; exact List.le_trans h1 h2⟩
end Go.Proofs.Ytjammaglboehcaa
