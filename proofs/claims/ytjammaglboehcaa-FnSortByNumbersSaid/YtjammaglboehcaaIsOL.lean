/-
  The walk of the law FnIsSortedByOrder.
-/
import Derived.Test.YtjammaglboehcaaIsO
namespace Go.Proofs.Ytjammaglboehcaa
open Go.RowKit Go.Proofs
set_option linter.unusedVariables false

/-! ### The plain law -/
theorem weak3_trans {r : Int → Int → Bool} {a b c : Int} (h : weak3 r a b c = true) (h1 : r a b = true) (h2 : r b c = true) : r a c = true := by
  unfold weak3 at h; rw [h1, h2] at h
  cases hc : r a c
  · rw [hc] at h; simp at h
  · rfl
theorem weak3_inc {r : Int → Int → Bool} {a b c : Int} (h : weak3 r a b c = true) (h1 : r a b = false) (h2 : r b a = false) (h3 : r b c = false) (h4 : r c b = false) : r a c = false ∧ r c a = false := by
  unfold weak3 at h; rw [h1, h2, h3, h4] at h
  simpa using h

/-- Not to come before is passed on. -/
theorem weak_pass {r : Int → Int → Bool} {f : Nat → Int} {n : Nat} (h : WeakP r f n) {i j k : Nat} (hi : i < n) (hj : j < n) (hk : k < n) (h1 : r (f j) (f i) = false) (h2 : r (f k) (f j) = false) : r (f k) (f i) = false := by
  cases hc : r (f k) (f i)
  · rfl
  · exfalso
    cases hab : r (f i) (f j)
    · cases hbc : r (f j) (f k)
      · have := (weak3_inc (((h i hi).2 j hj).2 k hk) hab h1 hbc h2).2
        rw [hc] at this; cases this
      · have := weak3_trans (((h j hj).2 k hk).2 i hi) hbc hc
        rw [h1] at this; cases this
    · have := weak3_trans (((h k hk).2 i hi).2 j hj) hc hab
      rw [h2] at this; cases this

/-- No number comes before the one just ahead of it. -/
def AdjO (r : Int → Int → Bool) (f : Nat → Int) (n : Nat) : Prop := ∀ i, 1 ≤ i → i < n → r (f i) (f (i - 1)) = false

theorem inOrd_iff {r : Int → Int → Bool} {f : Nat → Int} {n : Nat} (h : WeakP r f n) : InOrd r f n ↔ AdjO r f n := by
  constructor
  · intro ho i h1 h2; exact ho (i - 1) i (by omega) h2
  · intro ha i j hij hj
    induction j with
    | zero => omega
    | succ j ih =>
      rcases Nat.lt_or_ge i j with h3 | h3
      · exact weak_pass h (by omega) (show j < n by omega) hj (ih h3 (by omega)) (ha (j + 1) (by omega) hj)
      · obtain rfl : i = j := by omega
        exact ha (i + 1) (by omega) hj

theorem sign_nonneg {r : Int → Int → Bool} {a b : Int} : 0 ≤ signI r a b ↔ r a b = false := by
  unfold signI
  cases h : r a b
  · simp; split <;> omega
  · simp

theorem ascC_iff {r : Int → Int → Bool} {f : Nat → Int} {n : Nat} (h : WeakP r f n) : AscC (fun i j => signI r (f i) (f j)) n ↔ InOrd r f n := by
  rw [inOrd_iff h]
  exact ⟨fun ha i h1 h2 => sign_nonneg.1 (ha i h1 h2), fun ha i h1 h2 => sign_nonneg.2 (ha i h1 h2)⟩

/-! ### The thin package -/
theorem below_next {w w1 w2 : World} (h : Below w.heap.size w w1) (h2 : Below w1.heap.size w1 w2) : Below w.heap.size w w2 := h.trans (h2.mono h.size)

theorem byOrderI_en : ∀ args w, (callFunc 56 args).run Try.prog w = .ok (.enter 56 args) w := enters_of Try.func56 (by kernel_rfl) rfl

set_option maxHeartbeats 1000000 in
theorem implIsSortedByOrder (sz : Int) (A : Option Addr) (m c B : Nat) (g : Nat → Bool) (A' : Option Addr) (n c' B' : Nat) (f : Nat → Int) (w : World) (hsz : I64 sz) (hm : m ≤ 140737488351232) (hB : B ≤ w.heap.size) (hrd : Rd w B Value.bool A m g)
    (hf64 : ∀ i, I64 (f i)) (hn : n ≤ 4611686018427387903) (hB' : B' ≤ w.heap.size) (hrd' : Rd w B' (Value.int .i64) A' n f) :
    Calls Try.prog 32 #[.slice A' n c', .agg #[.int .i64 sz, .slice A m c]] w (TellsB (AscC (fun i j => signI (relB sz m g) (f i) (f j)) n) w) := by
  have hS := isSortedFunc 56 #[.pointer (some ⟨w.heap.size, 0, none⟩)] A' n c' B' f (fun i j => signI (relB sz m g) (f i) (f j)) (BoxInv w sz A m c) (w.alloc (.cells #[.int .i64 sz, .slice A m c] 33)) hn byOrderI_en
    (fun w' i j hi hj hI => (byOrderI sz (f i) (f j) A m c B w.heap.size g w' hsz (hf64 i) (hf64 j) hm (Nat.le_trans hB hI.bel.size) (hrd.keep hI.bel hB) ⟨hI.c0, hI.c1⟩).mono fun e w2 h => ⟨h.1, hI.step h.2⟩)
    (fun w' q hI => hI.drewN q) (fun w' hI => hrd'.keep hI.bel hB') (BoxInv.first w sz A m c _)
  have HS := Lib.hid hS; clear hS hrd hrd' hB hB' hf64 hsz
  go_enter Try.func32, Try.ntmps32
  go_wp2_with fail
  refine HS.out.mono ?_
  rintro e w' ⟨b, rfl, hb, hI⟩
  have HB := Lib.hid hb; have HI := Lib.hid hI; clear hb hI
  go_wp2_with fail
  go_ret
  exact ⟨b, rfl, HB.out, HI.out.bel⟩

set_option maxHeartbeats 1000000 in
theorem implSortIsSortedByOrder (sz : Int) (A : Option Addr) (m c B : Nat) (g : Nat → Bool) (A' : Option Addr) (n c' B' : Nat) (f : Nat → Int) (w : World) (hsz : I64 sz) (hm : m ≤ 140737488351232) (hB : B ≤ w.heap.size) (hrd : Rd w B Value.bool A m g)
    (hf64 : ∀ i, I64 (f i)) (hn : n ≤ 4611686018427387903) (hB' : B' ≤ w.heap.size) (hrd' : Rd w B' (Value.int .i64) A' n f) :
    Calls Try.prog 33 #[.slice A' n c', .agg #[.int .i64 sz, .slice A m c]] w (TellsB (AdjO (relB sz m g) f n) w) := by
  have hS := fun w0 (h0 : Below w.heap.size w w0) => sortIsSorted 62 (.agg #[.slice A' n c', .int .i64 sz, .slice A m c]) 171 172 n (fun i j => relB sz m g (f i) (f j)) (Below w.heap.size w) w0 (by omega)
    (ordered_len _) (ordered_less _) ordered_en ordered_el
    (fun w' hb => (orderedLen A' n c' sz A m c w').mono fun e w2 h => ⟨h.1, below_next hb h.2⟩)
    (fun w' i j hi hj hb => (orderedLess A' n c' sz A m c i j B B' g f w' hsz hm (Nat.le_trans hB hb.size) (hrd.keep hb hB) hf64 hn (Nat.le_trans hB' hb.size) (hrd'.keep hb hB') hi hj).mono fun e w2 h => ⟨h.1, below_next hb h.2⟩) h0
  have HS := Lib.hid hS; clear hS hrd hrd' hB hB' hf64 hsz
  have HBel := Lib.hid (fun o => (Below.refl w.heap.size w).alloc (Nat.le_refl _) o)
  go_enter Try.func33, Try.ntmps33
  go_wp2_with fail
  refine (HS.out _ (HBel.out _)).mono ?_
  rintro e w' ⟨b, rfl, hb, hI⟩
  have HB := Lib.hid hb; have HI := Lib.hid hI; clear hb hI
  go_wp2_with fail
  go_ret
  exact ⟨b, rfl, HB.out, HI.out⟩

end Go.Proofs.Ytjammaglboehcaa
