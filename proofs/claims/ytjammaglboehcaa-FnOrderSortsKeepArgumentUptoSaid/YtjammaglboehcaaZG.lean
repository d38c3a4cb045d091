/-
  Several texts of the walk or of the plain theory in one: PqN, PqN2, PqN3.
-/
import Derived.Test.YtjammaglboehcaaShelfF
import Derived.Test.YtjammaglboehcaaPqQ
import Derived.StillTailTactics
import Derived.BigRegion
import Derived.Test.YtjammaglboehcaaOrdG
import Derived.Test.YtjammaglboehcaaPlS
namespace Go.Proofs.Ytjammaglboehcaa
open Go.RowKit Go.Proofs
set_option linter.unusedVariables false

theorem tabA_size (T : Nat → Nat → Bool) (n N : Nat) : Keeps (tabA T) n (fun d => d.size = N) := ⟨fun _ _ _ _ _ h => h, fun d i j _ _ h => by show (Sort.swp d i j).size = N; rw [Sort.size_swp]; exact h⟩
theorem sz_ins (T : Nat → Nat → Bool) (d : Array Nat) (a b : Nat) : (Sort.insertionSort T d a b).size = d.size := by
  have h := arr_insSort (tabA_arr T) a b d
  rw [← h]
  exact (way_insSort (M := tabA T) (n := b) a b d (Nat.le_refl _)).keep (tabA_size T b d.size) rfl
theorem sz_heap (T : Nat → Nat → Bool) (d : Array Nat) (a b : Nat) (hab : a ≤ b) : (Sort.heapSort T d a b).size = d.size := by
  have h := arr_heapS (tabA_arr T) a b d
  rw [← h]
  exact (way_heapS (M := tabA T) (n := b) a b d hab (Nat.le_refl _)).keep (tabA_size T b d.size) rfl
theorem sz_pi (T : Nat → Nat → Bool) (d : Array Nat) (a b : Nat) (hab : a < b) : (Sort.partialInsertionSort T d a b).1.size = d.size := by
  have h := (arr_partI (tabA_arr T) a b 5 (a + 1) d).2
  unfold Sort.partialInsertionSort
  rw [← h]
  exact (way_partI (M := tabA T) (n := b) a b (Nat.le_refl _) 5 (a + 1) d (by omega) (by omega)).keep (tabA_size T b d.size) rfl
theorem sz_pe (T : Nat → Nat → Bool) (d : Array Nat) (a b pv : Nat) (h1 : a ≤ pv) (h2 : pv < b) : a < (Sort.partitionEqual T d a b pv).1 ∧ (Sort.partitionEqual T d a b pv).1 ≤ b ∧ (Sort.partitionEqual T d a b pv).2.size = d.size := by
  have h := arr_partEq (tabA_arr T) a b pv (by omega) d
  have w := way_partEq (M := tabA T) (n := b) a b pv d h1 h2 (Nat.le_refl _)
  rw [← h.1, ← h.2]
  exact ⟨w.2.1, w.2.2, w.1.keep (tabA_size T b d.size) rfl⟩
theorem sz_pa (T : Nat → Nat → Bool) (d : Array Nat) (a b pv : Nat) (h1 : a ≤ pv) (h2 : pv < b) : a ≤ (Sort.partition T d a b pv).1 ∧ (Sort.partition T d a b pv).1 < b ∧ (Sort.partition T d a b pv).2.2.size = d.size := by
  have h := arr_partit (tabA_arr T) a b pv (by omega) d
  have w := way_partit (M := tabA T) (n := b) a b pv d h1 h2 (Nat.le_refl _)
  rw [← h.1, ← h.2.2]
  exact ⟨w.2.1, w.2.2, w.1.keep (tabA_size T b d.size) rfl⟩

/-- What is known of a row of n numbers and of a comparison. -/
structure RowN (enc : Nat → Value) (cf : Nat → Nat → Int) (g : Nat) (cb : Array Value) (blk n : Nat) (d0 : Array Nat) (w0 : World) : Prop where
  eg : ∀ args w, (callFunc g args).run Try.prog w = .ok (.enter g args) w
  cmp : CmpLays1 Try.prog g cb enc cf blk 0 n w0
  row : Row1 enc w0 blk 0 d0
  size : d0.size = n
  hn : n < 4611686018427387904
  num : ∀ k, ∃ z : Int, enc k = .int .i64 z
/-- A world of the sort: the row holds some n elements. -/
def StN (enc : Nat → Value) (blk n : Nat) (w0 w : World) : Prop := ∃ d : Array Nat, d.size = n ∧ SW enc w0 blk 0 d w

section
variable {enc : Nat → Value} {cf : Nat → Nat → Int} {g : Nat} {cb : Array Value} {blk n : Nat} {d0 : Array Nat} {w0 : World}

theorem RowN.ins (H : RowN enc cf g cb blk n d0 w0) (cap a b : Nat) (hab : a ≤ b) (hb : b ≤ n) (w : World) (h : StN enc blk n w0 w) :
    Calls Try.prog 111 #[.slice (some ⟨blk, 0, none⟩) n cap, .int .i64 a, .int .i64 b, .func (.func g) #[] cb] w fun e w' => e = .returned (.tuple #[]) ∧ StN enc blk n w0 w' := by
  obtain ⟨d, hd, S⟩ := h
  have hz := H.size; have hn := H.hn
  have hc := Any.insertionSortCmpFunc_s (P := Try.prog) (ρ := Try.sortN_ren) { Try.sortN with } enc cf g cb blk 0 cap a b d0 d w0 w H.eg (by rw [hz]; exact H.cmp) H.row (by omega) S hab (by omega) (by omega)
  rw [hd] at hc
  exact hc.mono fun e w' h => ⟨h.1, _, (sz_ins _ _ _ _).trans hd, h.2⟩
theorem RowN.heap (H : RowN enc cf g cb blk n d0 w0) (cap a b : Nat) (hab : a ≤ b) (hb : b ≤ n) (w : World) (h : StN enc blk n w0 w) :
    Calls Try.prog 112 #[.slice (some ⟨blk, 0, none⟩) n cap, .int .i64 a, .int .i64 b, .func (.func g) #[] cb] w fun e w' => e = .returned (.tuple #[]) ∧ StN enc blk n w0 w' := by
  obtain ⟨d, hd, S⟩ := h
  have hz := H.size; have hn := H.hn
  have hc := Any.heapSortCmpFunc (P := Try.prog) (ρ := Try.sortN_ren) { Try.sortN with } enc cf g cb blk 0 cap a b d0 d w0 w H.eg (by rw [hz]; exact H.cmp) H.row (by omega) S hab (by omega) (by omega)
  rw [hd] at hc
  exact hc.mono fun e w' h => ⟨h.1, _, (sz_heap _ _ _ _ hab).trans hd, h.2⟩
theorem RowN.brk (H : RowN enc cf g cb blk n d0 w0) (cap a b : Nat) (hab : a ≤ b) (hb : b ≤ n) (w : World) (h : StN enc blk n w0 w) :
    Calls Try.prog 113 #[.slice (some ⟨blk, 0, none⟩) n cap, .int .i64 a, .int .i64 b, .func (.func g) #[] cb] w fun e w' => e = .returned (.tuple #[]) ∧ StN enc blk n w0 w' := by
  obtain ⟨d, hd, S⟩ := h
  have hz := H.size; have hn := H.hn
  have hc := Any.breakPatternsCmpFunc (P := Try.prog) (ρ := Try.sortN_ren) { Try.sortN with } enc g cb blk 0 cap a b d0 d w0 w H.row (by omega) S hab (by omega) (by omega)
  rw [hd] at hc
  exact hc.mono fun e w' h => ⟨h.1, _, (Sort.breakPatterns_holds d a b hab (by omega)).1.trans hd, h.2⟩
theorem RowN.rev (H : RowN enc cf g cb blk n d0 w0) (cap a b : Nat) (hab : a ≤ b) (hb : b ≤ n) (w : World) (h : StN enc blk n w0 w) :
    Calls Try.prog 115 #[.slice (some ⟨blk, 0, none⟩) n cap, .int .i64 a, .int .i64 b, .func (.func g) #[] cb] w fun e w' => e = .returned (.tuple #[]) ∧ StN enc blk n w0 w' := by
  obtain ⟨d, hd, S⟩ := h
  have hz := H.size; have hn := H.hn
  have hc := Any.reverseRangeCmpFunc (P := Try.prog) (ρ := Try.sortN_ren) { Try.sortN with } enc g cb blk 0 cap a b d0 d w0 w H.row (by omega) S hab (by omega) (by omega)
  rw [hd] at hc
  exact hc.mono fun e w' h => ⟨h.1, _, (Sort.reverseRange_holds d a b hab (by omega)).1.trans hd, h.2⟩
theorem RowN.cho (H : RowN enc cf g cb blk n d0 w0) (cap a b : Nat) (hab : a < b) (hb : b ≤ n) (w : World) (h : StN enc blk n w0 w) :
    Calls Try.prog 114 #[.slice (some ⟨blk, 0, none⟩) n cap, .int .i64 a, .int .i64 b, .func (.func g) #[] cb] w fun e w' => ∃ cx ch : Nat, e = .returned (.tuple #[.int .i64 cx, .int .i64 ch]) ∧ a ≤ cx ∧ cx < b ∧ ch ≤ 2 ∧ StN enc blk n w0 w' := by
  obtain ⟨d, hd, S⟩ := h
  have hz := H.size; have hn := H.hn
  have hc := Any.choosePivotCmpFunc (P := Try.prog) (ρ := Try.sortN_ren) { Try.sortN with } enc cf g cb blk 0 cap a b d0 d w0 w H.eg (by rw [hz]; exact H.cmp) H.row (by omega) S hab (by omega) (by omega)
  rw [hd] at hc
  have hr := Sort.choosePivot_holds (ltOf cf) d a b hab
  refine hc.mono fun e w' h => ?_
  have h1 := h.1
  cases hh : (Sort.choosePivot (ltOf cf) d a b).2 <;> rw [hh] at h1
  · exact ⟨_, _, h1, hr.1, hr.2, by decide, d, hd, h.2⟩
  · exact ⟨_, _, h1, hr.1, hr.2, by decide, d, hd, h.2⟩
  · exact ⟨_, _, h1, hr.1, hr.2, by decide, d, hd, h.2⟩
theorem RowN.pi (H : RowN enc cf g cb blk n d0 w0) (cap a b : Nat) (hab : a < b) (hb : b ≤ n) (w : World) (h : StN enc blk n w0 w) :
    Calls Try.prog 116 #[.slice (some ⟨blk, 0, none⟩) n cap, .int .i64 a, .int .i64 b, .func (.func g) #[] cb] w fun e w' => ∃ q : Bool, e = .returned (.bool q) ∧ StN enc blk n w0 w' := by
  obtain ⟨d, hd, S⟩ := h
  have hz := H.size; have hn := H.hn
  have hc := Any.partialInsertionSortCmpFunc (P := Try.prog) (ρ := Try.sortN_ren) { Try.sortN with } enc cf g cb blk 0 cap a b d0 d w0 w H.eg (by rw [hz]; exact H.cmp) H.row (by omega) S hab (by omega) (by omega)
  rw [hd] at hc
  exact hc.mono fun e w' h => ⟨_, h.1, _, (sz_pi _ _ _ _ hab).trans hd, h.2⟩
theorem RowN.pe (H : RowN enc cf g cb blk n d0 w0) (cap a b pv : Nat) (h1 : a ≤ pv) (h2 : pv < b) (hb : b ≤ n) (w : World) (h : StN enc blk n w0 w) :
    Calls Try.prog 117 #[.slice (some ⟨blk, 0, none⟩) n cap, .int .i64 a, .int .i64 b, .int .i64 pv, .func (.func g) #[] cb] w fun e w' => ∃ mid : Nat, e = .returned (.int .i64 mid) ∧ a < mid ∧ mid ≤ b ∧ StN enc blk n w0 w' := by
  obtain ⟨d, hd, S⟩ := h
  have hz := H.size; have hn := H.hn
  have hc := Any.partitionEqualCmpFunc (P := Try.prog) (ρ := Try.sortN_ren) { Try.sortN with } enc cf g cb blk 0 cap a b pv d0 d w0 w H.eg (by rw [hz]; exact H.cmp) H.row (by omega) S h1 h2 (by omega) (by omega)
  rw [hd] at hc
  have hr := sz_pe (ltOf cf) d a b pv h1 h2
  exact hc.mono fun e w' h => ⟨_, h.1, hr.1, hr.2.1, _, hr.2.2.trans hd, h.2⟩
theorem RowN.pa (H : RowN enc cf g cb blk n d0 w0) (cap a b pv : Nat) (h1 : a ≤ pv) (h2 : pv < b) (hb : b ≤ n) (w : World) (h : StN enc blk n w0 w) :
    Calls Try.prog 118 #[.slice (some ⟨blk, 0, none⟩) n cap, .int .i64 a, .int .i64 b, .int .i64 pv, .func (.func g) #[] cb] w fun e w' => ∃ (mid : Nat) (ap : Bool), e = .returned (.tuple #[.int .i64 mid, .bool ap]) ∧ a ≤ mid ∧ mid < b ∧ StN enc blk n w0 w' := by
  obtain ⟨d, hd, S⟩ := h
  have hz := H.size; have hn := H.hn
  have hc := Any.partitionCmpFunc (P := Try.prog) (ρ := Try.sortN_ren) { Try.sortN with } enc cf g cb blk 0 cap a b pv d0 d w0 w H.eg (by rw [hz]; exact H.cmp) H.row (by omega) S h1 h2 (by omega) (by omega)
  rw [hd] at hc
  have hr := sz_pa (ltOf cf) d a b pv h1 h2
  exact hc.mono fun e w' h => ⟨_, _, h.1, hr.1, hr.2.1, _, hr.2.2.trans hd, h.2⟩
/-- Two elements, and what the comparison says of them. -/
theorem RowN.two (H : RowN enc cf g cb blk n d0 w0) {i j : Nat} (hi : i < n) (hj : j < n) {w : World} (h : StN enc blk n w0 w) :
    ∃ (x y c : Int), w.cell? ⟨blk, i, none⟩ = some (.int .i64 x) ∧ w.cell? ⟨blk, j, none⟩ = some (.int .i64 y) ∧ Calls Try.prog g (#[.int .i64 x, .int .i64 y] ++ cb) (w.drewN 1) fun e w' => e = .returned (.int .i64 c) ∧ StN enc blk n w0 w' := by
  obtain ⟨d, hd, S⟩ := h
  have hz := H.size
  have c1 := S.c1 H.row (by omega) i (by omega)
  have c2 := S.c1 H.row (by omega) j (by omega)
  rw [Nat.zero_add] at c1 c2
  have hc := S.cmp (P := Try.prog) H.cmp hd d[i]! d[j]! 1 #[]
  rw [Sort.grow_empty] at hc
  obtain ⟨x, hx⟩ := H.num d[i]!
  obtain ⟨y, hy⟩ := H.num d[j]!
  rw [hx] at c1 hc
  rw [hy] at c2 hc
  refine ⟨x, y, cf d[i]! d[j]!, c1, c2, hc.mono fun e w' h => ⟨h.1, d, hd, ?_⟩⟩
  obtain ⟨q, os, rfl⟩ := h.2
  exact (S.drewN 1).grown q os
theorem StN.drewN {w : World} (h : StN enc blk n w0 w) (q : Nat) : StN enc blk n w0 (w.drewN q) := by
  obtain ⟨d, hd, S⟩ := h
  exact ⟨d, hd, S.drewN q⟩
end
end Go.Proofs.Ytjammaglboehcaa

namespace Go.Proofs.Ytjammaglboehcaa
open Go.RowKit Go.Proofs
set_option linter.unusedVariables false

section
variable {enc : Nat → Value} {cf : Nat → Nat → Int} {g : Nat} {cb : Array Value} {blk n : Nat} {d0 : Array Nat} {w0 : World}

set_option maxRecDepth 100000 in
set_option maxHeartbeats 4000000 in
theorem pdqN (H : RowN enc cf g cb blk n d0 w0) (cap : Nat) : ∀ (f0 a0 b0 lim0 : Nat) (w : World), a0 ≤ b0 → b0 ≤ n → b0 - a0 ≤ f0 → lim0 ≤ 1000 → StN enc blk n w0 w →
    Calls Try.prog 68 #[.slice (some ⟨blk, 0, none⟩) n cap, .int .i64 a0, .int .i64 b0, .int .i64 lim0, .func (.func g) #[] cb] w (Leaves (fun (_ : Unit) => StN enc blk n w0) ()) := by
  intro f0
  induction f0 using Nat.strongRecOn with
  | ind f0 ih =>
  intro a0 b0 lim0 w hab0 hb0 hf0 hli0 hR
  have hn := H.hn
  have eC := H.eg
  have HIns := Lib.hid (fun a b hab hb wr h => H.ins cap a b hab hb wr h)
  have HHeap := Lib.hid (fun a b hab hb wr h => H.heap cap a b hab hb wr h)
  have HBrk := Lib.hid (fun a b hab hb wr h => H.brk cap a b hab hb wr h)
  have HCho := Lib.hid (fun a b hab hb wr h => H.cho cap a b hab hb wr h)
  have HRev := Lib.hid (fun a b hab hb wr h => H.rev cap a b hab hb wr h)
  have HPI := Lib.hid (fun a b hab hb wr h => H.pi cap a b hab hb wr h)
  have HPE := Lib.hid (fun a b pv h1 h2 hb wr h => H.pe cap a b pv h1 h2 hb wr h)
  have HPa := Lib.hid (fun a b pv h1 h2 hb wr h => H.pa cap a b pv h1 h2 hb wr h)
  have HTwo := Lib.hid (fun i j (hi : i < n) (hj : j < n) (wr : World) h => H.two hi hj (w := wr) h)
  have HIH := Lib.hid ih
  have H0 := Lib.hid hR
  clear H hR ih
  generalize hSt : StN enc blk n w0 = St at *
  have HDr : Hid (∀ (wr : World) (q : Nat), St wr → St (wr.drewN q)) := Lib.hid (by subst hSt; exact fun wr q h => h.drewN q)
  clear hSt
  go_enter Try.func68, Try.ntmps68
  go_wp2_with fail
  go_loopg [1, 2, 3, 10, 11] f0 (fun k va vb vl v8 v9 wr => ∃ (a b lim : Nat) (wb wp : Bool), va = .int .i64 a ∧ vb = .int .i64 b ∧ vl = .int .i64 lim ∧ v8 = .bool wb ∧ v9 = .bool wp ∧ a ≤ b ∧ b ≤ n ∧ b - a ≤ k ∧ k ≤ f0 ∧ lim ≤ 1000 ∧ Hid (St wr))
  case atStart => exact ⟨a0, b0, lim0, true, true, rfl, rfl, rfl, rfl, rfl, hab0, hb0, hf0, Nat.le_refl _, hli0, H0.out⟩
  case round =>
    obtain ⟨a, b, lim, wb, wp, rfl, rfl, rfl, rfl, rfl, hab, hb, hg, hgf, hl, HI⟩ := hrel
    by_cases h12 : b - a ≤ 12
    · have hz : (b : Int) - (a : Int) ≤ 12 := by omega
      have HC := Lib.hid (HIns.out a b hab hb wr HI.out)
      go_wp2_with fail
      refine HC.out.mono ?_
      rintro e w1 ⟨rfl, hR1⟩
      have HR1 := Lib.hid hR1; clear hR1
      go_wp2_with fail
      go_end0
      exact ⟨rfl, HR1.out⟩
    · have hz : ¬ ((b : Int) - (a : Int) ≤ 12) := by omega
      by_cases hl0 : lim = 0
      · subst hl0
        have HC := Lib.hid (HHeap.out a b (by omega) hb wr HI.out)
        go_wp2_with fail
        refine HC.out.mono ?_
        rintro e w1 ⟨rfl, hR1⟩
        have HR1 := Lib.hid hR1; clear hR1
        go_wp2_with fail
        go_end0
        exact ⟨rfl, HR1.out⟩
      · have hlz : ((lim : Int) == 0) = false := by simp; omega
        have hlz2 : ¬ ((lim : Int) = 0) := by omega
        go_upto_if 39 with fail
        go_cut [3] from 21 to 147 (fun s3 wc => ∃ l1 : Nat, l1 ≤ 1000 ∧ s3 = .int .i64 (l1 : Nat) ∧ Hid (St wc))
        case first =>
          cases wb
          · have HC := Lib.hid (HBrk.out a b (by omega) hb wr HI.out)
            go_wp2_with fail
            refine HC.out.mono ?_
            rintro e w1 ⟨rfl, hR1⟩
            have HR1 := Lib.hid hR1; clear hR1
            go_wp2_with fail
            go_meet
            exact ⟨lim - 1, by omega, by go_num, HR1.out⟩
          · go_wp2_with fail
            go_meet
            exact ⟨lim, hl, rfl, HI.out⟩
        case rest =>
          obtain ⟨l1, hl1, rfl, HR1⟩ := hcut
          clear HI
          go_upto_if 56 with (go_at_call 114; refine (HCho.out a b (by omega) hb _ HR1.out).mono ?_; rintro e w2 ⟨cx, ch, rfl, hcx1, hcx2, hch, hR2⟩; have HR2 := Lib.hid hR2; clear hR2)
          go_cut [13, 14] from 21 to 147 (fun s13 s14 wc => ∃ pv h : Nat, s13 = .int .i64 (pv : Nat) ∧ s14 = .int .i64 (h : Nat) ∧ a ≤ pv ∧ pv < b ∧ Hid (St wc))
          case first =>
            by_cases hc2 : ch = 2
            · have hcz : ((ch : Int) == 2) = true := by simp; omega
              have hcz2 : (ch : Int) = 2 := by omega
              have HC := Lib.hid (HRev.out a b (by omega) hb w2 HR2.out)
              go_wp2_with fail
              refine HC.out.mono ?_
              rintro e w3 ⟨rfl, hR3⟩
              have HR3 := Lib.hid hR3; clear hR3
              go_wp2_with fail
              go_meet
              exact ⟨b - 1 - (cx - a), 1, congrArg (Value.int .i64) (by omega), rfl, by omega, by omega, HR3.out⟩
            · have hcz : ((ch : Int) == 2) = false := by simp; omega
              have hcz2 : ¬ ((ch : Int) = 2) := by omega
              go_wp2_with fail
              go_meet
              exact ⟨cx, ch, rfl, rfl, hcx1, hcx2, HR2.out⟩
          case rest =>
            obtain ⟨pv, h, rfl, rfl, hpv1, hpv2, HR3⟩ := hcut
            clear HR1 HR2
            go_upto_region 15 with fail
            go_cut [14, 75] from 21 to 147 (fun s14 s75 wx => ∃ v : Bool, s14 = .int .i64 (h : Nat) ∧ s75 = .bool v ∧ wc = wx)
            case first =>
              cases wb
              · go_wp2_with fail
                go_meet
                exact ⟨_, rfl, rfl, rfl⟩
              · cases wp
                · go_wp2_with fail
                  go_meet
                  exact ⟨_, rfl, rfl, rfl⟩
                · by_cases hh1 : h = 1
                  · have hhz : ((h : Int) == 1) = true := by simp; omega
                    have hhz2 : (h : Int) = 1 := by omega
                    go_wp2_with fail
                    go_meet
                    exact ⟨true, by simp [hh1], by simp, rfl⟩
                  · have hhz : ((h : Int) == 1) = false := by simp; omega
                    have hhz2 : ¬ ((h : Int) = 1) := by omega
                    go_wp2_with fail
                    go_meet
                    exact ⟨false, rfl, by simp, rfl⟩
            case rest =>
              obtain ⟨v, rfl, rfl, rfl⟩ := hcut
              go_upto_if 75 with fail
              go_cut [] from 21 to 147 (fun wc => Hid (St wc))
              case first =>
                cases v
                · go_wp2_with fail
                  go_meet
                  exact HR3.out
                · have HC := Lib.hid (HPI.out a b (by omega) hb wc HR3.out)
                  go_wp2_with fail
                  refine HC.out.mono ?_
                  rintro e w4 ⟨q, rfl, hR4⟩
                  have HR4 := Lib.hid hR4; clear hR4
                  cases q
                  · go_wp2_with fail
                    go_meet
                    exact HR4.out
                  · go_wp2_with fail
                    go_end0
                    exact ⟨rfl, HR4.out⟩
              case rest =>
                have HR4 : Hid (St wc) := hcut
                clear hcut HR3
                go_upto_region 17 with fail
                go_cut [97] from 21 to 147 (fun s97 wc => ∃ v : Bool, s97 = .bool v ∧ Hid (St wc))
                case first =>
                  by_cases ha : 0 < a
                  · have haz : decide ((a : Int) > 0) = true := decide_eq_true (by omega)
                    obtain ⟨vx, vy, cc, hx, hy, hC⟩ := HTwo.out (a - 1) pv (by omega) (by omega) wc HR4.out
                    have HC := Lib.hid hC; clear hC
                    have i1 : (1 : Int) ≤ (a : Int) := by omega
                    have i2 : 1 ≤ a := by omega
                    have iw0 : IntKind.i64.wrap ((a : Int) - 1) = (a : Int) - 1 := IntWalk.i64_in _ (by omega)
                    have iz0 : (0 : Int) ≤ (a : Int) - 1 := by omega
                    have il0 : (a : Int) - 1 < (n : Int) := by omega
                    have it0 : ((a : Int) - 1).toNat = a - 1 := by omega
                    have ib0 : (pv : Int) < (n : Int) := by omega
                    go_wp2_with fail
                    go_still_tail 13, (by kernel_rfl)
                    change wpList _ _ _ _ _ (wc.drewN 1)
                    go_wp2_with fail
                    refine HC.out.mono ?_
                    rintro e w5 ⟨rfl, hR5⟩
                    have HR5 := Lib.hid hR5; clear hR5 iw0 iz0 il0 it0 ib0 hx hy
                    by_cases hcc : cc < 0
                    · go_wp2_with fail
                      go_meet
                      exact ⟨_, rfl, HR5.out⟩
                    · have hcc2 : 0 ≤ cc := by omega
                      go_wp2_with fail
                      go_meet
                      exact ⟨_, rfl, HR5.out⟩
                  · have haz : decide ((a : Int) > 0) = false := decide_eq_false (by omega)
                    go_wp2_with fail
                    go_quiet (fail)
                    go_wp2_with fail
                    go_meet
                    exact ⟨_, rfl, HDr.out _ _ HR4.out⟩
                case rest =>
                  obtain ⟨v, rfl, HU⟩ := hcut
                  clear HR4
                  cases v
                  · have HC := Lib.hid (HPa.out a b pv hpv1 hpv2 hb wc HU.out)
                    go_wp2_with fail
                    refine HC.out.mono ?_
                    rintro e w6 ⟨mid, ap, rfl, hm1, hm2, hR6⟩
                    have HR6 := Lib.hid hR6; clear hR6
                    by_cases hlr : mid - a < b - mid
                    · have hlrz : (mid : Int) - (a : Int) < (b : Int) - (mid : Int) := by omega
                      have HCr := Lib.hid (HIH.out (mid - a) (by omega) a mid l1 w6 hm1 (by omega) (Nat.le_refl _) hl1 HR6.out)
                      go_wp2_with fail
                      refine HCr.out.mono ?_
                      rintro e w7 ⟨rfl, hR7⟩
                      have HR7 := Lib.hid hR7; clear hR7
                      go_wp2_with fail
                      go_roundg (b - (mid + 1))
                      case measure => omega
                      case rel => exact ⟨mid + 1, b, l1, decide ((b - a) / 8 ≤ mid - a), ap, by go_num, rfl, rfl, congrArg Value.bool (decide_eq_decide.2 (by omega)), rfl, by omega, hb, Nat.le_refl _, by omega, hl1, HR7.out⟩
                    · have hlrz : ¬ ((mid : Int) - (a : Int) < (b : Int) - (mid : Int)) := by omega
                      have hCr := HIH.out (b - (mid + 1)) (by omega) (mid + 1) b l1 w6 (by omega) hb (Nat.le_refl _) hl1 HR6.out
                      rw [show ((mid + 1 : Nat) : Int) = (mid : Int) + 1 by omega] at hCr
                      have HCr := Lib.hid hCr
                      clear hCr
                      go_wp2_with fail
                      refine HCr.out.mono ?_
                      rintro e w7 ⟨rfl, hR7⟩
                      have HR7 := Lib.hid hR7; clear hR7
                      go_wp2_with fail
                      go_roundg (mid - a)
                      case measure => omega
                      case rel => exact ⟨a, mid, l1, decide ((b - a) / 8 ≤ b - mid), ap, rfl, rfl, rfl, congrArg Value.bool (decide_eq_decide.2 (by omega)), rfl, by omega, by omega, Nat.le_refl _, by omega, hl1, HR7.out⟩
                  · have HC := Lib.hid (HPE.out a b pv hpv1 hpv2 hb wc HU.out)
                    go_wp2_with fail
                    refine HC.out.mono ?_
                    rintro e w6 ⟨mid, rfl, hm1, hm2, hR6⟩
                    have HR6 := Lib.hid hR6; clear hR6
                    go_wp2_with fail
                    go_roundg (b - mid)
                    case measure => omega
                    case rel => exact ⟨mid, b, l1, wb, wp, rfl, rfl, rfl, rfl, rfl, hm2, hb, Nat.le_refl _, by omega, hl1, HR6.out⟩

set_option maxRecDepth 100000 in
set_option maxHeartbeats 4000000 in
theorem sortFuncN (H : RowN enc cf g cb blk n d0 w0) (cap : Nat) (w : World) (hR : StN enc blk n w0 w) :
    Calls Try.prog 47 #[.slice (some ⟨blk, 0, none⟩) n cap, .func (.func g) #[] cb] w (Leaves (fun (_ : Unit) => StN enc blk n w0) ()) := by
  have hn := H.hn
  have HLen := Lib.hid (fun w => bitsLenI n hn w)
  have wr : IntKind.u64.wrap (n : Int) = n := by rw [IntKind.wrap_u64]; omega
  have hbl : Sort.bitsLen n ≤ 1000 := Nat.le_trans ((Sort.bitsLen_le_iff n 62).2 (by omega)) (by omega)
  have HS := Lib.hid (fun w' h => pdqN H cap n 0 n (Sort.bitsLen n) w' (Nat.zero_le _) (Nat.le_refl _) (by omega) hbl h)
  have H0 := Lib.hid hR
  clear H hR
  go_enter Try.func47, Try.ntmps47
  go_wp2_with fail
  refine (HLen.out _).mono ?_
  rintro e w2 ⟨rfl, rfl⟩
  go_wp2_with fail
  refine (HS.out _ H0.out).mono ?_
  rintro e w3 ⟨rfl, hR3⟩
  have HR3 := Lib.hid hR3; clear hR3
  go_wp2_with fail
  go_end0
  exact ⟨rfl, HR3.out⟩
end
end Go.Proofs.Ytjammaglboehcaa

namespace Go.Proofs.Ytjammaglboehcaa
open Go.RowKit Go.Proofs
set_option linter.unusedVariables false

set_option maxHeartbeats 2000000 in
theorem implSortByOrderAny (sz : Int) (A : Option Addr) (m c B : Nat) (gb : Nat → Bool) (A' : Option Addr) (n c' B' : Nat) (f : Nat → Int) (w : World) (hsz : I64 sz) (hm : m ≤ 140737488351232) (hB : B ≤ w.heap.size) (hrd : Rd w B Value.bool A m gb)
    (hf64 : ∀ i, I64 (f i)) (hn : n * 8 ≤ 140737488351232) (hB' : B' ≤ w.heap.size) (hrd' : Rd w B' (Value.int .i64) A' n f) :
    Calls Try.prog 22 #[.slice A' n c', .agg #[.int .i64 sz, .slice A m c]] w fun e w' => ∃ p, OutP w n f p e w' := by
  have HNu := Lib.hid (numbers A' n c' B' f (w.alloc (.cells #[.int .i64 sz, .slice A m c] 33)) hn (hrd'.alloc hB' _))
  have H0 := Lib.hid (BoxInv.first w sz A m c 33)
  have hs0 : (idA n).size = n := (permA_id n).1
  have HSt := Lib.hid (fun (w1 : World) (g cap : Nat) (G : Nat → Value) (hi : BoxInv w sz A m c w1) (hg : w.heap.size < g) (hr : w1.rowIs g 3 (cap * 1) G) (hnc : n ≤ cap) (hG : ∀ k, k < n → G k = .int .i64 (f k)) => by
    have hH : Sort.Holds (fun k : Nat => Value.int .i64 (f k)) w1 g 0 (idA n) := fun j hj => by
      have hj' : j < n := by rw [hs0] at hj; exact hj
      refine ⟨?_, by rw [Nat.zero_add]; exact hr.frozen j⟩
      rw [Nat.zero_add, hr.cell (by omega), hG j hj', show (idA n)[j]! = j from idA_at hj']
    exact sortFuncN (enc := fun k : Nat => .int .i64 (f k)) (cf := fun i j => signI (relB sz m gb) (f i) (f j)) (g := 48) (cb := #[.pointer (some ⟨w.heap.size, 0, none⟩)]) (blk := g) (n := n) (d0 := idA n) (w0 := w1)
      ⟨enters_of Try.func48 (by kernel_rfl) rfl,
       fun q os dk hs x y => by
        have hb := below_put (fun k : Nat => .int .i64 (f k)) w1 g dk q os hr.lt
        have hbw : Below w.heap.size w (Sort.grow (Sort.putRow (fun k : Nat => .int .i64 (f k)) (Sort.ahead w1 q) g 0 dk) os) := hi.bel.trans (hb.mono (Nat.le_of_lt hg))
        exact (byOrderG sz (f x) (f y) A m c B w.heap.size gb _ hsz (hf64 _) (hf64 _) hm (Nat.le_trans hB hbw.size) (hrd.keep hbw hB)
          ⟨(hb.cell (p := ⟨w.heap.size, 0, none⟩) hg).trans hi.c0, (hb.cell (p := ⟨w.heap.size, 1, none⟩) hg).trans hi.c1⟩).mono fun e w' h => ⟨h.1, h.2⟩,
       ⟨fun _ => rfl, hH, hr.lt⟩, hs0, by omega, fun k => ⟨f k, rfl⟩⟩ cap w1 ⟨idA n, hs0, SW.start hH⟩)
  have HSn := Lib.hid (fun (w1 : World) (p : Option Addr) (cap : Nat) (fv : Value) => AnyF.slices_SortFunc_none Try.sortN0 p cap fv w1)
  clear hrd hrd' hB hB' hf64 hsz hs0
  go_enter Try.func22, Try.ntmps22
  go_wp2_with fail
  refine HNu.out.mono ?_
  rintro e w1 ⟨v1, rfl, ⟨G, hG, hF⟩, hb1⟩
  have H1 := Lib.hid (H0.out.step hb1)
  have hbs : w.heap.size < (w.alloc (.cells #[.int .i64 sz, .slice A m c] 33)).heap.size := by simp
  rcases hG with ⟨rfl, h0⟩ | ⟨g, cap, rfl, hg, hnc, hr⟩
  · have H0n := Lib.hid h0
    clear h0 hF hb1 HSt HNu hbs
    go_wp2_with fail
    refine (HSn.out w1 none 0 _).mono ?_
    rintro e w2 ⟨rfl, rfl⟩
    go_wp2_with fail
    go_ret
    exact ⟨fun k => k, _, rfl, ⟨fun _ => .bool false, .inl ⟨rfl, H0n.out⟩, fun k hk => absurd hk (by rw [H0n.out]; omega)⟩, H1.out.bel⟩
  · have HC := Lib.hid (HSt.out w1 g cap G H1.out (Nat.lt_of_lt_of_le hbs hg) hr hnc (fun k hk => hF k (by omega)))
    have HGg := Lib.hid (And.intro (Nat.le_of_lt (Nat.lt_of_lt_of_le hbs hg)) (And.intro hnc hr))
    clear hF hb1 HSn HSt HNu hbs hg hnc hr
    go_wp2_with fail
    refine HC.out.mono ?_
    rintro e w2 ⟨rfl, d', hd', q, os, hw2⟩
    have HW2 := Lib.hid hw2; have HD := Lib.hid hd'; clear hw2 hd'
    go_wp2_with fail
    go_ret
    refine ⟨fun k => d'[k]!, _, rfl, ⟨_, .inr ⟨g, cap, rfl, HGg.out.1, HGg.out.2.1, by rw [HW2.out]; exact rowIs_put (fun k : Nat => Value.int .i64 (f k)) HGg.out.2.2 d' q os⟩, fun k hk => ?_⟩, H1.out.bel.trans (by rw [HW2.out]; exact (below_put (fun k : Nat => Value.int .i64 (f k)) w1 g d' q os HGg.out.2.2.lt).mono HGg.out.1)⟩
    rw [if_pos (by rw [HD.out]; exact hk)]
end Go.Proofs.Ytjammaglboehcaa
