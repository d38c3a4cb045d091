/-
  Several texts of the walk or of the plain theory in one: Num, PlI.
-/
import Derived.Test.YtjammaglboehcaaProg
import Derived.Test.YtjammaglboehcaaPlL
import Derived.Test.YtjammaglboehcaaCpyS
import Derived.Test.YtjammaglboehcaaShelf
import Derived.Test.YtjammaglboehcaaPlS
namespace Go.Proofs.Ytjammaglboehcaa
open Go.RowKit Go.Proofs
set_option linter.unusedVariables false

theorem infoIntB : (Try.prog.info? 3).map (fun i => (i.zero, i.size, i.bytes)) = some (some (.int .i64 0), 1, 8) := by kernel_rfl

set_option maxHeartbeats 1000000 in
theorem numbersB (A : Option Addr) (n c B : Nat) (f : Nat → Int) (w : World) (hn : n * 8 ≤ 140737488351232) (hrd : Rd w B (Value.int .i64) A n f) :
    Calls Try.prog 45 #[.slice A n c] w fun e w' => ∃ v, e = .returned v ∧ Copied w 3 1 (fun j => .int .i64 (f j)) v n w' := by
  obtain ⟨i, hi, hz, hs, hby⟩ := info_parts infoIntB
  have HR := Lib.hid hrd; clear hrd
  go_enter Try.func45, Try.ntmps45
  go_wp2_with (at_builtin; refine wpList_copy_nil rfl _ _ 25 rfl 3 i _ 1 8 Try.underlying25 hi hz hs hby rfl (by omega) A n c (fun j => .int .i64 (f j)) rfl rfl (fun h => by obtain ⟨b, off, hA, _, hc⟩ := HR.out h; exact ⟨b, off, hA, fun j hj => hc j (by omega)⟩) (fun j hj => by simp [Value.oneCell']) (by simp [maxLen]; omega) (by omega) ?_; intro v1 w1 hcp; have HCp := Lib.hid hcp; clear hcp)
  go_ret
  exact ⟨v1, rfl, HCp.out⟩


/-- A call that returns true, and only reads. -/
def TrueB (w : World) (e : Ending) (w' : World) : Prop := e = .returned (.bool true) ∧ ∃ q, w' = w.drewN q



theorem bytes_extB {x y : ByteArray} (h : x.toList = y.toList) : x = y := by
  rw [ByteArray.toList_eq, ByteArray.toList_eq] at h
  cases x; cases y
  simp only [ByteArray.mk.injEq]
  exact Array.toList_inj.1 h


end Go.Proofs.Ytjammaglboehcaa

namespace Go.Proofs.Ytjammaglboehcaa
open Go.RowKit Go.Proofs Go.Sort
set_option linter.unusedVariables false

/-- A list of the call's own that reads as g. -/
def OutE {α : Type} (t : TypeId) (enc : α → Value) (w : World) (n : Nat) (g : Nat → α) (e : Ending) (w' : World) : Prop :=
  ∃ v, e = .returned v ∧ (∃ G : Nat → Value, OwnRow w' w.heap.size t 1 v n G ∧ ∀ k, k < n → G k = enc (g k)) ∧ Below w.heap.size w w'
theorem OutE.rd {α : Type} {t : TypeId} {enc : α → Value} {w w' : World} {n : Nat} {g : Nat → α} {e : Ending} (h : OutE t enc w n g e w') :
    ∃ A c, e = .returned (.slice A n c) ∧ Rd w' w'.heap.size enc A n g ∧ Below w.heap.size w w' := by
  obtain ⟨v, rfl, ⟨G, hG, hF⟩, hb⟩ := h
  obtain ⟨A, c, rfl, hr⟩ := hG.rd hF
  exact ⟨A, c, rfl, hr, hb⟩
theorem OutE.congr {α : Type} {t : TypeId} {enc : α → Value} {w w' : World} {n : Nat} {g g' : Nat → α} {e : Ending} (h : OutE t enc w n g e w') (hg : ∀ k, k < n → g k = g' k) : OutE t enc w n g' e w' := by
  obtain ⟨v, rfl, ⟨G, hG, hF⟩, hb⟩ := h
  exact ⟨v, rfl, ⟨G, hG, fun k hk => by rw [hF k hk, hg k hk]⟩, hb⟩

def leI (x y : Int) : Bool := decide (x ≤ y)
theorem lin_leI : Lin leI := lin_int
/-- What sorting makes of numbers. -/
def srtI (f : Nat → Int) (n k : Nat) : Int := srtF leI 0 f n k


set_option maxHeartbeats 2000000 in
theorem implSortInts (A : Option Addr) (n c B : Nat) (f : Nat → Int) (w : World) (hn : n * 8 ≤ 140737488351232) (hrd : Rd w B (Value.int .i64) A n f) :
    Calls Try.prog 21 #[.slice A n c] w (OutE 3 (Value.int .i64) w n (srtI f n)) := by
  have HNu := Lib.hid (numbersB A n c B f w hn hrd)
  have HSt := Lib.hid (fun (w1 : World) (g cap : Nat) (G : Nat → Value) (hr : w1.rowIs g 3 (cap * 1) G) (hnc : n ≤ cap) (hG : ∀ k, k < n * 1 → G k = .int .i64 (f k)) =>
    Try.slices_Sort_int g 0 cap (listOf f n) w1 (holds_row (Value.int .i64) hr (listOf f n) (by rw [listOf_len]; omega) (fun k x hx => by
      have hk : k < n := by have := (List.getElem?_eq_some_iff.1 hx).1; rw [listOf_len] at this; exact this
      rw [listOf_get hk] at hx
      rw [← Option.some.inj hx]; exact hG k (by omega))) hr.lt (by rw [listOf_len]; omega))
  have HSn := Lib.hid (fun (w1 : World) => Try.slices_Sort_int_none none 0 w1)
  simp only [listOf_len] at HSt
  clear hrd
  go_enter Try.func21, Try.ntmps21
  go_wp2_with fail
  refine HNu.out.mono ?_
  rintro e w1 ⟨v1, rfl, ⟨G, hG, hF⟩, hb1⟩
  have H1 := Lib.hid hb1
  rcases hG with ⟨rfl, h0⟩ | ⟨g, cap, rfl, hg, hnc, hr⟩
  · have HC := Lib.hid (HSn.out w1)
    have H0n := Lib.hid h0
    clear h0 hF hb1 HSn HSt HNu
    go_wp2_with fail
    refine HC.out.mono ?_
    rintro e w2 ⟨rfl, rfl⟩
    go_wp2_with fail
    go_ret
    exact ⟨_, rfl, ⟨fun _ => .bool false, .inl ⟨rfl, H0n.out⟩, fun k hk => absurd hk (by rw [H0n.out]; omega)⟩, H1.out⟩
  · have HC := Lib.hid (HSt.out w1 g cap G hr hnc hF)
    have HGg := Lib.hid (And.intro hg (And.intro hnc hr))
    clear hF hb1 HSn HSt HNu hg hnc hr
    go_wp2_with fail
    refine HC.out.mono ?_
    rintro e w2 ⟨rfl, m, os, hw2⟩
    have HW2 := Lib.hid hw2; clear hw2
    go_wp2_with fail
    go_ret
    have hl : ((listOf f n).mergeSort fun x y => decide (x ≤ y)).length = n := by rw [List.length_mergeSort, listOf_len]
    refine ⟨_, rfl, ⟨_, .inr ⟨g, cap, rfl, HGg.out.1, HGg.out.2.1, by rw [HW2.out]; exact rowIs_put (Value.int .i64) HGg.out.2.2 _ m os⟩, fun k hk => ?_⟩, H1.out.trans (by rw [HW2.out]; exact (below_put (Value.int .i64) w1 g _ m os HGg.out.2.2.lt).mono HGg.out.1)⟩
    rw [if_pos (by simpa [hl] using hk)]
    congr 1
    unfold srtI srtF srt leI
    simp [List.getD_eq_getElem?_getD, hl, hk]
end Go.Proofs.Ytjammaglboehcaa
