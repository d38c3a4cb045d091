/-
  The walks of impl.CompactStrings and of the law FnTextSortsKeepArgument.
-/
import Derived.Test.YtjddpbamnjdjcaaPlT
import Derived.Lib.RowBridge
namespace Go.Proofs.Ytjddpbamnjdjcaa
open Go.RowKit Go.Proofs Go.Sort
set_option linter.unusedVariables false

/-- A list of at most n elements; what was there is as it was. -/
def OutLe (w : World) (n : Nat) (e : Ending) (w' : World) : Prop := ∃ A k c, e = .returned (.slice A k c) ∧ k ≤ n ∧ Below w.heap.size w w'

set_option maxHeartbeats 1000000 in
theorem implCompactStrings (A : Option Addr) (n c B : Nat) (f : Nat → ByteArray) (w : World) (hn : n * 16 ≤ 140737488351232) (hrd : Rd w B Value.string A n f) :
    Calls Try.prog 38 #[.slice A n c] w (OutLe w n) := by
  have HNu := Lib.hid (textsB A n c B f w hn hrd)
  have HSt := Lib.hid (fun (w1 : World) (g cap : Nat) (G : Nat → Value) (hr : w1.rowIs g 9 (cap * 1) G) (hnc : n ≤ cap) (hG : ∀ k, k < n * 1 → G k = .string (f k)) =>
    Try.slices_Compact_string g 0 cap (listOf (strL f) n) w1 (holds_row encStr hr (listOf (strL f) n) (by rw [listOf_len]; omega) (fun k x hx => by
      have hk : k < n := by have := (List.getElem?_eq_some_iff.1 hx).1; rw [listOf_len] at this; exact this
      rw [listOf_get hk] at hx
      rw [← Option.some.inj hx, encStr_strL]; exact hG k (by omega))) (by rw [listOf_len]; omega) (by rw [listOf_len]; exact hnc))
  have HSn := Lib.hid (fun (w1 : World) => Try.slices_Compact_string_empty none 0 w1)
  have hcl : (Lib.compact (listOf (strL f) n)).length ≤ n := by have := Lib.compact_length_le (listOf (strL f) n); rw [listOf_len] at this; exact this
  simp only [listOf_len] at HSt
  generalize (Lib.compact (listOf (strL f) n)).length = m at *
  clear hrd
  go_enter Try.func38, Try.ntmps38
  go_wp2_with fail
  refine HNu.out.mono ?_
  rintro e w1 ⟨v1, rfl, ⟨G, hG, hF⟩, hb1⟩
  have H1 := Lib.hid hb1
  rcases hG with ⟨rfl, h0⟩ | ⟨g, cap, rfl, hg, hnc, hr⟩
  · have HC := Lib.hid (HSn.out w1)
    clear h0 hF hb1 HSn HSt HNu
    go_wp2_with fail
    refine HC.out.mono ?_
    rintro e w2 ⟨rfl, rfl⟩
    go_wp2_with fail
    go_ret
    exact ⟨none, 0, 0, rfl, Nat.zero_le _, H1.out⟩
  · have HC := Lib.hid (HSt.out w1 g cap G hr hnc hF)
    have HGg := Lib.hid (And.intro hg hr.lt)
    clear hF hb1 HSn HSt HNu hg hnc hr
    go_wp2_with fail
    refine HC.out.mono ?_
    rintro e w2 ⟨rfl, q, hw2⟩
    have HB : Hid (Below w.heap.size w w2) := Lib.hid (H1.out.trans (by
      rw [hw2]
      have := below_put encStr w1 g (Lib.compact (listOf (strL f) n) ++ List.replicate (n - m) []).toArray q #[] HGg.out.2
      rw [grow_empty] at this
      exact this.mono HGg.out.1))
    clear hw2
    go_wp2_with fail
    go_ret
    exact ⟨_, m, cap, rfl, hcl, HB.out⟩

set_option maxHeartbeats 2000000 in
theorem fnTextSortsKeepArgumentw (w : World) (A : Option Addr) (n c : Nat) (f : Nat → ByteArray) (hfs : ∀ i, (f i).size ≤ 9223372036854775807) (hl : n ≤ c) (hre : c * 16 ≤ 140737488351232) (hrd : Rd w w.heap.size Value.string A n f) :
    Calls Try.prog 12 #[.slice A n c] w fun e w' => e = .returned (.bool true) ∧ Below w.heap.size w w' := by
  have hn : n * 16 ≤ 140737488351232 := by omega
  have hnn : n ≤ 4611686018427387903 := by omega
  have hee : ((n : Int) == (n : Int)) = true := by simp
  obtain ⟨i, hi, hz, hs, hby⟩ := info_parts infoStrB
  have HI := Lib.hid (fun w' A1 c1 B (hr : Rd w' B Value.string A1 n f) => implSortStrings A1 n c1 B f w' hn hr)
  have HJ := Lib.hid (fun w' A1 c1 B (hr : Rd w' B Value.string A1 n f) => implSortSortStrings A1 n c1 B f w' hn hr)
  have HK := Lib.hid (fun w' A1 c1 B (hr : Rd w' B Value.string A1 n f) => implCompactStrings A1 n c1 B f w' hn hr)
  have HR := Lib.hid hrd
  clear hrd hfs hre hl
  go_enter Try.func12, Try.ntmps12
  go_wp2_with (at_builtin; refine wpList_copy_nil rfl _ _ 27 rfl 9 i _ 1 16 Try.underlying27 hi hz hs hby rfl (by omega) A n c (fun j => .string (f j)) rfl rfl (fun h => by obtain ⟨b, off, hA, _, hc⟩ := HR.out h; exact ⟨b, off, hA, fun j hj => hc j (by omega)⟩) (fun j hj => by simp [Value.oneCell']) (by simp [maxLen]; omega) (by omega) ?_; intro v1 w1 hcp; obtain ⟨A1, c1, rfl, hr1⟩ := Copied.rd hcp; have HB1 := Lib.hid hcp.2; have HR1 := Lib.hid hr1; clear hcp hr1)
  refine (HI.out w1 A1 c1 _ HR1.out).mono ?_
  intro e w2 h2
  obtain ⟨A2, c2, rfl, hr2, hb2⟩ := h2.rd
  have HB2 := Lib.hid (HB1.out.trans (hb2.mono HB1.out.size))
  have HR2 := Lib.hid (HR1.out.keep hb2 (Nat.le_refl _))
  have HS2 := Lib.hid hb2.size
  clear hr2 hb2 h2
  go_wp2_with fail
  refine (HJ.out w2 A1 c1 _ HR2.out).mono ?_
  intro e w3 h3
  obtain ⟨A3, c3, rfl, hr3, hb3⟩ := h3.rd
  have HB3 := Lib.hid (HB2.out.trans (hb3.mono HB2.out.size))
  have HR3 := Lib.hid (HR2.out.keep hb3 HS2.out)
  have HS3 := Lib.hid (Nat.le_trans HS2.out hb3.size)
  clear hr3 hb3 h3
  go_wp2_with fail
  refine (HK.out w3 A1 c1 _ HR3.out).mono ?_
  rintro e w4 ⟨A4, k4, c4, rfl, hk4, hb4⟩
  have HB4 := Lib.hid (HB3.out.trans (hb4.mono HB3.out.size))
  have HR4 := Lib.hid (HR3.out.keep hb4 HS3.out)
  have HE := Lib.hid (sameTexts n n c c1 A A1 f f w4 _ _ hnn hnn (HR.out.keep HB4.out (Nat.le_refl _)) HR4.out)
  have hk5 : (k4 : Int) ≤ (n : Int) := by omega
  clear hb4
  go_wp2_with fail
  refine HE.out.mono ?_
  rintro e w5 ⟨b5, rfl, hb5, q5, rfl⟩
  obtain rfl : b5 = true := hb5.2 ⟨rfl, fun _ _ => rfl⟩
  clear hb5
  go_wp2_with fail
  go_ret
  exact ⟨rfl, below_drewN HB4.out q5⟩
end Go.Proofs.Ytjddpbamnjdjcaa
