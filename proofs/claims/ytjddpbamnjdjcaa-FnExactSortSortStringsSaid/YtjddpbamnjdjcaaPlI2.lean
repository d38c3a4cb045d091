/-
  The walks of impl.SortSortStrings and impl.SortStrings over the library's contracts.
-/
import Derived.Test.YtjddpbamnjdjcaaPlI
import Derived.Test.YtjddpbamnjdjcaaAscT
namespace Go.Proofs.Ytjddpbamnjdjcaa
open Go.RowKit Go.Proofs Go.Sort
set_option linter.unusedVariables false

/-- A string as a list of its bytes. -/
def strL (f : Nat → ByteArray) (k : Nat) : List UInt8 := (f k).data.toList
theorem encStr_strL (f : Nat → ByteArray) (k : Nat) : encStr (strL f k) = .string (f k) := by unfold encStr strL; simp
def leS (x y : List UInt8) : Bool := decide (x ≤ y)
theorem lin_leS : Lin leS := lin_str
/-- What sorting makes of strings. -/
def srtS (f : Nat → ByteArray) (n k : Nat) : ByteArray := ⟨(srtF leS [] (strL f) n k).toArray⟩
theorem strL_srtS (f : Nat → ByteArray) (n k : Nat) : strL (srtS f n) k = srtF leS [] (strL f) n k := by
  show (srtF leS [] (strL f) n k).toArray.toList = _
  simp
theorem bytes_of_list {a b : ByteArray} (h : a.data.toList = b.data.toList) : a = b := by
  cases a; cases b
  simp only [ByteArray.mk.injEq]
  exact Array.toList_inj.1 h
theorem leS_not (a b : ByteArray) : leS a.data.toList b.data.toList = !ltS b a := by
  unfold leS ltS
  by_cases c : b.data.toList < a.data.toList
  · rw [decide_eq_true c, decide_eq_false (by rw [← List.not_lt]; exact fun h => h c)]; rfl
  · rw [decide_eq_false c, decide_eq_true (List.not_lt.1 c)]; rfl
theorem ascS_of {g : Nat → ByteArray} {n : Nat} (h : AscG leS (strL g) n) : AscS g n := fun i h1 h2 => by
  have := h (i - 1) i (by omega) h2
  unfold strL at this
  rw [leS_not] at this
  cases c : ltS (g i) (g (i - 1))
  · rfl
  · rw [c] at this; cases this
theorem ascG_of {g : Nat → ByteArray} {n : Nat} (h : AscS g n) : AscG leS (strL g) n := fun i j h1 h2 => by
  have := h.le (Nat.le_of_lt h1) h2
  unfold strL
  rw [leS_not, this]; rfl
theorem srtS_asc (f : Nat → ByteArray) (n : Nat) : AscS (srtS f n) n := ascS_of (by
  have := srtF_asc lin_leS [] (strL f) n
  intro i j h1 h2
  rw [strL_srtS, strL_srtS]; exact this i j h1 h2)
theorem srtS_cnt (f : Nat → ByteArray) (n : Nat) (x : ByteArray) : cnt (fun k => decide (srtS f n k = x)) n = cnt (fun k => decide (f k = x)) n := by
  have h := srtF_cnt leS [] (strL f) n (fun y => decide (y = x.data.toList))
  have e1 : cnt (fun k => decide (srtS f n k = x)) n = cnt (fun k => decide (srtF leS [] (strL f) n k = x.data.toList)) n := cnt_congr fun k _ => by
    rw [decide_eq_decide, ← strL_srtS]
    exact ⟨fun h => by rw [← h]; rfl, fun h => bytes_of_list h⟩
  have e2 : cnt (fun k => decide (f k = x)) n = cnt (fun k => decide (strL f k = x.data.toList)) n := cnt_congr fun k _ => by
    rw [decide_eq_decide]
    exact ⟨fun h => by rw [← h]; rfl, fun h => bytes_of_list h⟩
  rw [e1, e2]; exact h
theorem srtS_stays {f : Nat → ByteArray} {n : Nat} (h : AscS f n) : ∀ k, k < n → srtS f n k = f k := fun k hk => bytes_of_list (by
  have := srtF_stays [] (ascG_of h) k hk
  unfold srtS
  show (srtF leS [] (strL f) n k).toArray.toList = _
  rw [this]; rfl)
theorem srtS_iff (f : Nat → ByteArray) (n : Nat) : (∀ k, k < n → srtS f n k = f k) ↔ AscS f n := ⟨fun h i h1 h2 => by
  have := srtS_asc f n i h1 h2
  rw [h _ h2, h _ (by omega)] at this
  exact this, srtS_stays⟩
theorem srtS_size {f : Nat → ByteArray} {n : Nat} (hf : ∀ i, (f i).size ≤ 9223372036854775807) (k : Nat) : (srtS f n k).size ≤ 9223372036854775807 := by
  unfold srtS srtF
  rw [List.getD_eq_getElem?_getD]
  cases hk : (srt leS (strL f) n)[k]? with
  | none => exact Nat.zero_le _
  | some x =>
    have hm : x ∈ listOf (strL f) n := (List.mergeSort_perm _ _).subset (List.mem_of_getElem? hk)
    unfold listOf at hm
    obtain ⟨j, _, rfl⟩ := List.mem_map.1 hm
    have := hf j
    simp only [Option.getD_some]
    unfold strL
    simpa using this

set_option maxHeartbeats 2000000 in
theorem implSortSortStrings (A : Option Addr) (n c B : Nat) (f : Nat → ByteArray) (w : World) (hn : n * 16 ≤ 140737488351232) (hrd : Rd w B Value.string A n f) :
    Calls Try.prog 23 #[.slice A n c] w (OutE 9 Value.string w n (srtS f n)) := by
  have HNu := Lib.hid (textsB A n c B f w hn hrd)
  have HSt := Lib.hid (fun (w1 : World) (g cap : Nat) (G : Nat → Value) (hr : w1.rowIs g 9 (cap * 1) G) (hnc : n ≤ cap) (hG : ∀ k, k < n * 1 → G k = .string (f k)) =>
    Try.sort_Strings g 0 cap (listOf (strL f) n) w1 (holds_row (encStr) hr (listOf (strL f) n) (by rw [listOf_len]; omega) (fun k x hx => by
      have hk : k < n := by have := (List.getElem?_eq_some_iff.1 hx).1; rw [listOf_len] at this; exact this
      rw [listOf_get hk] at hx
      rw [← Option.some.inj hx, encStr_strL]; exact hG k (by omega))) hr.lt (by rw [listOf_len]; omega))
  have HSn := Lib.hid (fun (w1 : World) => Try.sort_Strings_none none 0 w1)
  simp only [listOf_len] at HSt
  clear hrd
  go_enter Try.func23, Try.ntmps23
  go_wp2_with fail
  refine HNu.out.mono ?_
  rintro e w1 ⟨v1, rfl, ⟨G, hG, hF⟩, hb1⟩
  have H1 := Lib.hid hb1
  rcases hG with ⟨rfl, h0⟩ | ⟨g, cap, rfl, hg, hnc, hr⟩
  · have HC := Lib.hid (HSn.out w1)
    have H0n := Lib.hid h0
    clear h0 hF hb1 HSn HSt HNu
    go_wp2_with fail
    refine HC.out.mono ?_
    rintro e w2 ⟨rfl, rfl⟩
    go_wp2_with fail
    go_ret
    exact ⟨_, rfl, ⟨fun _ => .bool false, .inl ⟨rfl, H0n.out⟩, fun k hk => absurd hk (by rw [H0n.out]; omega)⟩, H1.out⟩
  · have HC := Lib.hid (HSt.out w1 g cap G hr hnc hF)
    have HGg := Lib.hid (And.intro hg (And.intro hnc hr))
    clear hF hb1 HSn HSt HNu hg hnc hr
    go_wp2_with fail
    refine HC.out.mono ?_
    rintro e w2 ⟨rfl, m, os, hw2⟩
    have HW2 := Lib.hid hw2; clear hw2
    go_wp2_with fail
    go_ret
    have hl : ((listOf (strL f) n).mergeSort fun x y => decide (x ≤ y)).length = n := by rw [List.length_mergeSort, listOf_len]
    refine ⟨_, rfl, ⟨_, .inr ⟨g, cap, rfl, HGg.out.1, HGg.out.2.1, by rw [HW2.out]; exact rowIs_put (encStr) HGg.out.2.2 _ m os⟩, fun k hk => ?_⟩, H1.out.trans (by rw [HW2.out]; exact (below_put (encStr) w1 g _ m os HGg.out.2.2.lt).mono HGg.out.1)⟩
    rw [if_pos (by simpa [hl] using hk)]
    unfold srtS srtF srt leS encStr
    simp [List.getD_eq_getElem?_getD, hl, hk]

set_option maxHeartbeats 2000000 in
theorem implSortStrings (A : Option Addr) (n c B : Nat) (f : Nat → ByteArray) (w : World) (hn : n * 16 ≤ 140737488351232) (hrd : Rd w B Value.string A n f) :
    Calls Try.prog 33 #[.slice A n c] w (OutE 9 Value.string w n (srtS f n)) := by
  have HNu := Lib.hid (textsB A n c B f w hn hrd)
  have HSt := Lib.hid (fun (w1 : World) (g cap : Nat) (G : Nat → Value) (hr : w1.rowIs g 9 (cap * 1) G) (hnc : n ≤ cap) (hG : ∀ k, k < n * 1 → G k = .string (f k)) =>
    Try.slices_Sort_string g 0 cap (listOf (strL f) n) w1 (holds_row (encStr) hr (listOf (strL f) n) (by rw [listOf_len]; omega) (fun k x hx => by
      have hk : k < n := by have := (List.getElem?_eq_some_iff.1 hx).1; rw [listOf_len] at this; exact this
      rw [listOf_get hk] at hx
      rw [← Option.some.inj hx, encStr_strL]; exact hG k (by omega))) hr.lt (by rw [listOf_len]; omega))
  have HSn := Lib.hid (fun (w1 : World) => Try.slices_Sort_string_none none 0 w1)
  simp only [listOf_len] at HSt
  clear hrd
  go_enter Try.func33, Try.ntmps33
  go_wp2_with fail
  refine HNu.out.mono ?_
  rintro e w1 ⟨v1, rfl, ⟨G, hG, hF⟩, hb1⟩
  have H1 := Lib.hid hb1
  rcases hG with ⟨rfl, h0⟩ | ⟨g, cap, rfl, hg, hnc, hr⟩
  · have HC := Lib.hid (HSn.out w1)
    have H0n := Lib.hid h0
    clear h0 hF hb1 HSn HSt HNu
    go_wp2_with fail
    refine HC.out.mono ?_
    rintro e w2 ⟨rfl, rfl⟩
    go_wp2_with fail
    go_ret
    exact ⟨_, rfl, ⟨fun _ => .bool false, .inl ⟨rfl, H0n.out⟩, fun k hk => absurd hk (by rw [H0n.out]; omega)⟩, H1.out⟩
  · have HC := Lib.hid (HSt.out w1 g cap G hr hnc hF)
    have HGg := Lib.hid (And.intro hg (And.intro hnc hr))
    clear hF hb1 HSn HSt HNu hg hnc hr
    go_wp2_with fail
    refine HC.out.mono ?_
    rintro e w2 ⟨rfl, m, os, hw2⟩
    have HW2 := Lib.hid hw2; clear hw2
    go_wp2_with fail
    go_ret
    have hl : ((listOf (strL f) n).mergeSort fun x y => decide (x ≤ y)).length = n := by rw [List.length_mergeSort, listOf_len]
    refine ⟨_, rfl, ⟨_, .inr ⟨g, cap, rfl, HGg.out.1, HGg.out.2.1, by rw [HW2.out]; exact rowIs_put (encStr) HGg.out.2.2 _ m os⟩, fun k hk => ?_⟩, H1.out.trans (by rw [HW2.out]; exact (below_put (encStr) w1 g _ m os HGg.out.2.2.lt).mono HGg.out.1)⟩
    rw [if_pos (by simpa [hl] using hk)]
    unfold srtS srtF srt leS encStr
    simp [List.getD_eq_getElem?_getD, hl, hk]
end Go.Proofs.Ytjddpbamnjdjcaa
