/-
  The walk of the law FnIsSortedByOrder.
-/
import Derived.Test.YtkalmcpejmljgaaIsO
namespace Go.Proofs.Ytkalmcpejmljgaa
open Go.RowKit Go.Proofs
set_option linter.unusedVariables false

/-! ### The plain law -/
theorem weak3_trans {r : Int → Int → Bool} {a b c : Int} (h : weak3 r a b c = true) (h1 : r a b = true) (h2 : r b c = true) : r a c = true := by
  unfold weak3 at h; rw [h1, h2] at h
  cases hc : r a c
  · rw [hc] at h; simp at h
  · rfl
theorem weak3_inc {r : Int → Int → Bool} {a b c : Int} (h : weak3 r a b c = true) (h1 : r a b = false) (h2 : r b a = false) (h3 : r b c = false) (h4 : r c b = false) : r a c = false ∧ r c a = false := by
  unfold weak3 at h; rw [h1, h2, h3, h4] at h
  simpa using h

/-- Not to come before is passed on. -/
theorem weak_pass {r : Int → Int → Bool} {f : Nat → Int} {n : Nat} (h : WeakP r f n) {i j k : Nat} (hi : i < n) (hj : j < n) (hk : k < n) (h1 : r (f j) (f i) = false) (h2 : r (f k) (f j) = false) : r (f k) (f i) = false := by
  cases hc : r (f k) (f i)
  · rfl
  · exfalso
    cases hab : r (f i) (f j)
    · cases hbc : r (f j) (f k)
      · have := (weak3_inc (((h i hi).2 j hj).2 k hk) hab h1 hbc h2).2
        rw [hc] at this; cases this
      · have := weak3_trans (((h j hj).2 k hk).2 i hi) hbc hc
        rw [h1] at this; cases this
    · have := weak3_trans (((h k hk).2 i hi).2 j hj) hc hab
      rw [h2] at this; cases this

/-- No number comes before the one just ahead of it. -/
def AdjO (r : Int → Int → Bool) (f : Nat → Int) (n : Nat) : Prop := ∀ i, 1 ≤ i → i < n → r (f i) (f (i - 1)) = false

theorem inOrd_iff {r : Int → Int → Bool} {f : Nat → Int} {n : Nat} (h : WeakP r f n) : InOrd r f n ↔ AdjO r f n := by
  constructor
  · intro ho i h1 h2; exact ho (i - 1) i (by omega) h2
  · intro ha i j hij hj
    induction j with
    | zero => omega
    | succ j ih =>
      rcases Nat.lt_or_ge i j with h3 | h3
      · exact weak_pass h (by omega) (show j < n by omega) hj (ih h3 (by omega)) (ha (j + 1) (by omega) hj)
      · obtain rfl : i = j := by omega
        exact ha (i + 1) (by omega) hj

theorem sign_nonneg {r : Int → Int → Bool} {a b : Int} : 0 ≤ signI r a b ↔ r a b = false := by
  unfold signI
  cases h : r a b
  · simp; split <;> omega
  · simp

theorem ascC_iff {r : Int → Int → Bool} {f : Nat → Int} {n : Nat} (h : WeakP r f n) : AscC (fun i j => signI r (f i) (f j)) n ↔ InOrd r f n := by
  rw [inOrd_iff h]
  exact ⟨fun ha i h1 h2 => sign_nonneg.1 (ha i h1 h2), fun ha i h1 h2 => sign_nonneg.2 (ha i h1 h2)⟩

/-! ### The thin package -/
theorem below_next {w w1 w2 : World} (h : Below w.heap.size w w1) (h2 : Below w1.heap.size w1 w2) : Below w.heap.size w w2 := h.trans (h2.mono h.size)

theorem byOrderI_en : ∀ args w, (callFunc 36 args).run Try.prog w = .ok (.enter 36 args) w := enters_of Try.func36 (by kernel_rfl) rfl

set_option maxHeartbeats 1000000 in
theorem implIsSortedByOrder (sz : Int) (A : Option Addr) (m c B : Nat) (g : Nat → Bool) (A' : Option Addr) (n c' B' : Nat) (f : Nat → Int) (w : World) (hsz : I64 sz) (hm : m ≤ 140737488351232) (hB : B ≤ w.heap.size) (hrd : Rd w B Value.bool A m g)
    (hf64 : ∀ i, I64 (f i)) (hn : n ≤ 4611686018427387903) (hB' : B' ≤ w.heap.size) (hrd' : Rd w B' (Value.int .i64) A' n f) :
    Calls Try.prog 23 #[.slice A' n c', .agg #[.int .i64 sz, .slice A m c]] w (TellsB (AscC (fun i j => signI (relB sz m g) (f i) (f j)) n) w) := by
  have hS := isSortedFunc 36 #[.pointer (some ⟨w.heap.size, 0, none⟩)] A' n c' B' f (fun i j => signI (relB sz m g) (f i) (f j)) (BoxInv w sz A m c) (w.alloc (.cells #[.int .i64 sz, .slice A m c] 43)) hn byOrderI_en
    (fun w' i j hi hj hI => (byOrderI sz (f i) (f j) A m c B w.heap.size g w' hsz (hf64 i) (hf64 j) hm (Nat.le_trans hB hI.bel.size) (hrd.keep hI.bel hB) ⟨hI.c0, hI.c1⟩).mono fun e w2 h => ⟨h.1, hI.step h.2⟩)
    (fun w' q hI => hI.drewN q) (fun w' hI => hrd'.keep hI.bel hB') (BoxInv.first w sz A m c _)
  have HS := Lib.hid hS; clear hS hrd hrd' hB hB' hf64 hsz
  go_enter Try.func23, Try.ntmps23
  go_wp2_with fail
  refine HS.out.mono ?_
  rintro e w' ⟨b, rfl, hb, hI⟩
  have HB := Lib.hid hb; have HI := Lib.hid hI; clear hb hI
  go_wp2_with fail
  go_ret
  exact ⟨b, rfl, HB.out, HI.out.bel⟩

set_option maxHeartbeats 1000000 in
theorem implSortIsSortedByOrder (sz : Int) (A : Option Addr) (m c B : Nat) (g : Nat → Bool) (A' : Option Addr) (n c' B' : Nat) (f : Nat → Int) (w : World) (hsz : I64 sz) (hm : m ≤ 140737488351232) (hB : B ≤ w.heap.size) (hrd : Rd w B Value.bool A m g)
    (hf64 : ∀ i, I64 (f i)) (hn : n ≤ 4611686018427387903) (hB' : B' ≤ w.heap.size) (hrd' : Rd w B' (Value.int .i64) A' n f) :
    Calls Try.prog 25 #[.slice A' n c', .agg #[.int .i64 sz, .slice A m c]] w (TellsB (AdjO (relB sz m g) f n) w) := by
  have hS := fun w0 (h0 : Below w.heap.size w w0) => sortIsSorted 58 (.agg #[.slice A' n c', .int .i64 sz, .slice A m c]) 64 65 n (fun i j => relB sz m g (f i) (f j)) (Below w.heap.size w) w0 (by omega)
    (ordered_len _) (ordered_less _) ordered_en ordered_el
    (fun w' hb => (orderedLen A' n c' sz A m c w').mono fun e w2 h => ⟨h.1, below_next hb h.2⟩)
    (fun w' i j hi hj hb => (orderedLess A' n c' sz A m c i j B B' g f w' hsz hm (Nat.le_trans hB hb.size) (hrd.keep hb hB) hf64 hn (Nat.le_trans hB' hb.size) (hrd'.keep hb hB') hi hj).mono fun e w2 h => ⟨h.1, below_next hb h.2⟩) h0
  have HS := Lib.hid hS; clear hS hrd hrd' hB hB' hf64 hsz
  have HBel := Lib.hid (fun o => (Below.refl w.heap.size w).alloc (Nat.le_refl _) o)
  go_enter Try.func25, Try.ntmps25
  go_wp2_with fail
  refine (HS.out _ (HBel.out _)).mono ?_
  rintro e w' ⟨b, rfl, hb, hI⟩
  have HB := Lib.hid hb; have HI := Lib.hid hI; clear hb hI
  go_wp2_with fail
  go_ret
  exact ⟨b, rfl, HB.out, HI.out⟩

set_option maxHeartbeats 2000000 in
theorem fnIsSortedByOrderw (w : World) (A' : Option Addr) (n c' : Nat) (f : Nat → Int) (hf64 : ∀ i, I64 (f i)) (hl : n ≤ c') (hre : c' * 8 ≤ 140737488351232) (hrd' : Rd w w.heap.size (Value.int .i64) A' n f)
    (sz : Int) (A : Option Addr) (m c : Nat) (g : Nat → Bool) (hsz : I64 sz) (hlm : m ≤ c) (hrm : c ≤ 140737488351232) (hrd : Rd w w.heap.size Value.bool A m g) :
    Calls Try.prog 6 #[.slice A' n c', .agg #[.int .i64 sz, .slice A m c]] w fun e w' => e = .returned (.bool true) ∧ Below w.heap.size w w' := by
  have hm : m ≤ 140737488351232 := by omega
  have hn : n ≤ 4611686018427387903 := by omega
  have HW := Lib.hid (fun w' (hb : Below w.heap.size w w') => weak sz A m c w.heap.size g A' n c' w.heap.size f w' hsz hm hb.size (hrd.keep hb (Nat.le_refl _)) hf64 hn hb.size (hrd'.keep hb (Nat.le_refl _)))
  have HO := Lib.hid (fun w' (hb : Below w.heap.size w w') => inOrder sz A m c w.heap.size g A' n c' w.heap.size f w' hsz hm hb.size (hrd.keep hb (Nat.le_refl _)) hf64 hn hb.size (hrd'.keep hb (Nat.le_refl _)))
  have HT := Lib.hid (fun w' (hb : Below w.heap.size w w') => toOrder sz A m c w.heap.size g w' hm hb.size (hrd.keep hb (Nat.le_refl _)))
  have HI := Lib.hid (fun w' A1 c1 (hb : Below w.heap.size w w') (hr : Rd w' w'.heap.size Value.bool A1 m g) => implIsSortedByOrder sz A1 m c1 w'.heap.size g A' n c' w.heap.size f w' hsz hm (Nat.le_refl _) hr hf64 hn hb.size (hrd'.keep hb (Nat.le_refl _)))
  have HJ := Lib.hid (fun w' A1 c1 (hb : Below w.heap.size w w') (hr : Rd w' w'.heap.size Value.bool A1 m g) => implSortIsSortedByOrder sz A1 m c1 w'.heap.size g A' n c' w.heap.size f w' hsz hm (Nat.le_refl _) hr hf64 hn hb.size (hrd'.keep hb (Nat.le_refl _)))
  have H0 := Lib.hid (BoxInv.first w sz A m c 40)
  clear hrd hrd' hf64 hre hl hlm hrm hsz
  generalize relB sz m g = r at *
  go_enter Try.func6, Try.ntmps6
  go_wp2_with fail
  refine (HW.out _ H0.out.bel).mono ?_
  rintro e w1 ⟨bw, rfl, hbw, hb1⟩
  have H1 := Lib.hid (H0.out.step hb1)
  have p0 := H1.out.c0
  have p1 := H1.out.c1
  clear hb1 H0
  cases bw
  · clear hbw
    go_wp2_with fail
    go_ret
    exact ⟨rfl, H1.out.bel⟩
  · have HWk := Lib.hid (hbw.1 rfl); clear hbw
    go_wp2_with fail
    refine (HO.out _ H1.out.bel).mono ?_
    rintro e w2 ⟨bo, rfl, hbo, hb2⟩
    have H2 := Lib.hid (H1.out.step hb2)
    have p0 := H2.out.c0
    have p1 := H2.out.c1
    have HBo := Lib.hid hbo
    clear hb2 hbo
    go_wp2_with fail
    refine (HT.out _ H2.out.bel).mono ?_
    rintro e w3 ⟨A1, c1, rfl, hr1, hb3⟩
    have H3 := Lib.hid (H2.out.step hb3)
    have HR3 := Lib.hid hr1
    clear hb3 hr1
    go_wp2_with fail
    refine (HI.out _ A1 c1 H3.out.bel HR3.out).mono ?_
    rintro e w4 ⟨b4, rfl, hb4, hb5⟩
    obtain rfl : b4 = bo := by rw [Bool.eq_iff_iff, hb4, HBo.out]; exact ascC_iff HWk.out
    have H4 := Lib.hid (H3.out.step hb5)
    have p0 := H4.out.c0
    have p1 := H4.out.c1
    have hee : (b4 == b4) = true := by simp
    clear hb4 hb5
    go_wp2_with fail
    refine (HT.out _ H4.out.bel).mono ?_
    rintro e w5 ⟨A2, c2, rfl, hr2, hb6⟩
    have H5 := Lib.hid (H4.out.step hb6)
    have HR5 := Lib.hid hr2
    clear hb6 hr2
    go_wp2_with fail
    refine (HJ.out _ A2 c2 H5.out.bel HR5.out).mono ?_
    rintro e w6 ⟨b6, rfl, hb7, hb8⟩
    obtain rfl : b6 = b4 := by rw [Bool.eq_iff_iff, hb7, HBo.out]; exact (inOrd_iff HWk.out).symm
    have H6 := Lib.hid (H5.out.step hb8)
    clear hb7 hb8
    go_wp2_with fail
    go_ret
    exact ⟨rfl, H6.out.bel⟩
end Go.Proofs.Ytkalmcpejmljgaa
