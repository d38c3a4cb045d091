/-
  Several texts of the walk or of the plain theory in one: StF1, StF2, StF3, StF4.
-/
import Derived.Test.YtjammaglboehcaaProg
import Derived.Test.YtjammaglboehcaaStB
namespace Go.Proofs.Ytjammaglboehcaa
open Go.RowKit Go.Proofs
set_option linter.unusedVariables false

/-- Nothing but block g has changed. -/
def Far (g : Nat) (w w' : World) : Prop := w.heap.size ≤ w'.heap.size ∧ ∀ b, b ≠ g → b < w.heap.size → w'.heap[b]? = w.heap[b]?

/-- Two functions, Less and Swap, over a machine whose memory is block g; Swap is one that the model answers itself. -/
structure FuncS {σ : Type} (M : Mach σ) (ok : σ → Prop) (R : σ → World → Prop) (gl : Nat) (lb : Array Value) (gs : Nat) (sb : Array Value) (g n : Nat) : Prop where
  guard : Guard M ok
  hn : n ≤ 1152921504606846975
  hg : ∀ s w, R s w → g < w.heap.size
  alloc : ∀ s w o, R s w → R s (w.alloc o)
  eL : ∀ args w, (callFunc gl args).run Try.prog w = .ok (.enter gl args) w
  lessF : ∀ s w i j, i < n → j < n → R s w → ok (M.tick s i j) → Calls Try.prog gl (#[.int .i64 (i : Nat), .int .i64 (j : Nat)] ++ lb) w fun e w' => (e = .returned (.bool (M.less s i j)) ∧ R (M.tick s i j) w') ∧ Far g w w'
  swapF : ∀ s w i j, i < n → j < n → R s w → ok (M.swap s i j) → ∃ w', (callFunc gs (#[.int .i64 (i : Nat), .int .i64 (j : Nat)] ++ sb)).run Try.prog w = .ok (.value (.tuple #[])) w' ∧ R (M.swap s i j) w' ∧ Far g w w'

section
variable {σ : Type} {M : Mach σ} {ok : σ → Prop} {R : σ → World → Prop} {gl : Nat} {lb : Array Value} {gs : Nat} {sb : Array Value} {g n : Nat}
theorem FuncS.less (H : FuncS M ok R gl lb gs sb g n) : ∀ s w i j, i < n → j < n → R s w → ok (M.tick s i j) → Calls Try.prog gl (#[.int .i64 (i : Nat), .int .i64 (j : Nat)] ++ lb) w fun e w' => e = .returned (.bool (M.less s i j)) ∧ R (M.tick s i j) w' :=
  fun s w i j hi hj hR hok => (H.lessF s w i j hi hj hR hok).mono fun _ _ h => h.1
theorem FuncS.swap (H : FuncS M ok R gl lb gs sb g n) : ∀ s w i j, i < n → j < n → R s w → ok (M.swap s i j) → ∃ w', (callFunc gs (#[.int .i64 (i : Nat), .int .i64 (j : Nat)] ++ sb)).run Try.prog w = .ok (.value (.tuple #[])) w' ∧ R (M.swap s i j) w' :=
  fun s w i j hi hj hR hok => by obtain ⟨w', h1, h2, _⟩ := H.swapF s w i j hi hj hR hok; exact ⟨w', h1, h2⟩

/-- A box of the two functions stays as it is. -/
theorem FuncS.box (H : FuncS M ok R gl lb gs sb g n) (w : World) {s : σ} (hR : R s w) (t : TypeId) :
    ∃ R' : σ → World → Prop, FuncS M ok R' gl lb gs sb g n ∧ R' s (w.alloc (.cells #[.func (.func gl) #[] lb, .func (.func gs) #[] sb] t)) ∧ (∀ s w2, R' s w2 → R s w2) ∧
      ∀ s w2, R' s w2 → w2.cell? ⟨w.heap.size, 0, none⟩ = some (.func (.func gl) #[] lb) ∧ w2.cell? ⟨w.heap.size, 1, none⟩ = some (.func (.func gs) #[] sb) := by
  have hne : w.heap.size ≠ g := Nat.ne_of_gt (H.hg s w hR)
  have cell : ∀ (w1 w2 : World) (o : Nat) (v : Value), w.heap.size < w1.heap.size → Far g w1 w2 → w1.cell? ⟨w.heap.size, o, none⟩ = some v → w2.cell? ⟨w.heap.size, o, none⟩ = some v := fun w1 w2 o v hlt hf h => by
    have := hf.2 w.heap.size hne hlt
    simp only [World.cell?] at h ⊢
    rw [this]; exact h
  refine ⟨fun s w2 => R s w2 ∧ w.heap.size < w2.heap.size ∧ w2.cell? ⟨w.heap.size, 0, none⟩ = some (.func (.func gl) #[] lb) ∧ w2.cell? ⟨w.heap.size, 1, none⟩ = some (.func (.func gs) #[] sb), ⟨H.guard, H.hn, fun s w2 h => H.hg s w2 h.1, fun s w2 o h => ?_, H.eL, fun s w2 i j hi hj h hok => ?_, fun s w2 i j hi hj h hok => ?_⟩, ⟨H.alloc _ _ _ hR, by simp, by simp [go_sem], by simp [go_sem]⟩, fun s w2 h => h.1, fun s w2 h => h.2.2⟩
  · exact ⟨H.alloc _ _ _ h.1, by simp; omega, cell_alloc _ h.2.2.1, cell_alloc _ h.2.2.2⟩
  · exact (H.lessF s w2 i j hi hj h.1 hok).mono fun e w3 h3 => ⟨⟨h3.1.1, h3.1.2, Nat.lt_of_lt_of_le h.2.1 h3.2.1, cell _ _ 0 _ h.2.1 h3.2 h.2.2.1, cell _ _ 1 _ h.2.1 h3.2 h.2.2.2⟩, h3.2⟩
  · obtain ⟨w3, h1, h2, h3⟩ := H.swapF s w2 i j hi hj h.1 hok
    exact ⟨w3, h1, ⟨h2, Nat.lt_of_lt_of_le h.2.1 h3.1, cell _ _ 0 _ h.2.1 h3 h.2.2.1, cell _ _ 1 _ h.2.1 h3 h.2.2.2⟩, h3⟩
end

section
variable {σ : Type} {M : Mach σ} {ok : σ → Prop} {R : σ → World → Prop} {gl : Nat} {lb : Array Value} {gs : Nat} {sb : Array Value} {g n : Nat}

set_option maxRecDepth 100000 in
set_option maxHeartbeats 4000000 in
theorem swapRangeF (H : FuncS M ok R gl lb gs sb g n) (a b k : Nat) (ha : a + k ≤ n) (hb : b + k ≤ n) (s : σ) (w : World) (hR : R s w) (hok : ok (swapR M a b k 0 s)) :
    Calls Try.prog 145 #[.agg #[.func (.func gl) #[] lb, .func (.func gs) #[] sb], .int .i64 a, .int .i64 b, .int .i64 k] w (Leaves R (swapR M a b k 0 s)) := by
  obtain ⟨R, H, hR, hout, hbx⟩ := H.box w hR 88
  refine Calls.mono ?_ (fun e w' (h : Leaves R _ e w') => ⟨h.1, hout _ _ h.2⟩)
  have HBx := Lib.hid hbx; clear hbx hout
  obtain ⟨bx0, bx1⟩ := HBx.out _ _ hR
  have hn := H.hn
  have HS := Lib.hid (And.intro H.swap H.guard)
  have H0 := Lib.hid (And.intro hR hok)
  clear H hR hok
  go_enter Try.func145, Try.ntmps145
  go_wp2_with fail
  go_loopw [8] (fun vi wr => ∃ (i : Nat) (t : σ), i ≤ k ∧ vi = .int .i64 i ∧ Hid (R t wr ∧ swapR M a b (k - i) i t = swapR M a b k 0 s)) (fun vi _ => k - (intOf vi).toNat)
  case atStart => exact ⟨0, s, Nat.zero_le _, rfl, H0.out.1, rfl⟩
  case round =>
    obtain ⟨i, t, hi, rfl, HI⟩ := hrel
    obtain ⟨bx0, bx1⟩ := HBx.out _ _ HI.out.1
    by_cases hlt : i < k
    · have HE : Hid (swapR M a b (k - (i + 1)) (i + 1) (M.swap t (a + i) (b + i)) = swapR M a b k 0 s) := Lib.hid (by
        have := HI.out.2
        rw [show k - i = (k - (i + 1)) + 1 by omega] at this
        exact this)
      obtain ⟨w1, hC, hR1⟩ := HS.out.1 t wr (a + i) (b + i) (by omega) (by omega) HI.out.1 (ok_swapR HS.out.2 a b (k - (i + 1)) (i + 1) _ (by rw [HE.out]; exact H0.out.2))
      rw [Int.natCast_add, Int.natCast_add] at hC
      have HR1 := Lib.hid hR1; obtain ⟨bx2, bx3⟩ := HBx.out _ _ hR1; clear hR1
      go_wp2_with fail
      go_roundw
      case rel => exact ⟨i + 1, M.swap t (a + i) (b + i), hlt, by go_num, HR1.out, HE.out⟩
      case measure => simp [intOf]; omega
    · go_wp2_with fail
      go_end0
      exact ⟨rfl, by
        have := HI.out.2
        rw [show k - i = 0 by omega] at this
        rw [← this]; exact HI.out.1⟩

set_option maxRecDepth 100000 in
set_option maxHeartbeats 4000000 in
theorem rotateF (H : FuncS M ok R gl lb gs sb g n) (a m b : Nat) (ha : a < m) (hm : m < b) (hb : b ≤ n) (s : σ) (w : World) (hR : R s w) (hok : ok (rotate M a m b s)) :
    Calls Try.prog 132 #[.agg #[.func (.func gl) #[] lb, .func (.func gs) #[] sb], .int .i64 a, .int .i64 m, .int .i64 b] w (Leaves R (rotate M a m b s)) := by
  obtain ⟨R, H, hR, hout, hbx⟩ := H.box w hR 88
  refine Calls.mono ?_ (fun e w' (h : Leaves R _ e w') => ⟨h.1, hout _ _ h.2⟩)
  have HBx := Lib.hid hbx; clear hbx hout
  obtain ⟨bx0, bx1⟩ := HBx.out _ _ hR
  have hn := H.hn
  have HS := Lib.hid (fun a b k ha hb t wr => swapRangeF H a b k ha hb t wr)
  have HG := Lib.hid H.guard
  have H0 := Lib.hid (And.intro hR hok)
  clear H hR hok
  go_enter Try.func132, Try.ntmps132
  go_wp2_with fail
  go_loopw [8, 9] (fun vi vj wr => ∃ (i j f : Nat) (t : σ), 1 ≤ i ∧ 1 ≤ j ∧ i ≤ m ∧ m + j ≤ n ∧ vi = .int .i64 i ∧ vj = .int .i64 j ∧ i + j ≤ f ∧ Hid (R t wr ∧ rotL M m f i j t = rotate M a m b s)) (fun vi vj _ => (intOf vi).toNat + (intOf vj).toNat)
  case atStart => exact ⟨m - a, b - m, (m - a) + (b - m), s, by omega, by omega, by omega, by omega, by go_num, by go_num, Nat.le_refl _, H0.out.1, rfl⟩
  case round =>
    obtain ⟨i, j, f, t, hi, hj, him, hjn, rfl, rfl, hf, HI⟩ := hrel
    obtain ⟨bx0, bx1⟩ := HBx.out _ _ HI.out.1
    obtain ⟨f, rfl⟩ : ∃ g, f = g + 1 := ⟨f - 1, by omega⟩
    have cmi : ((m - i : Nat) : Int) = (m : Int) - (i : Int) := by omega
    have cmj : ((m + j - i : Nat) : Int) = (m : Int) + (j : Int) - (i : Int) := by omega
    have HM1 := Lib.hid cmi; have HM2 := Lib.hid cmj; clear cmi cmj
    by_cases hij : i = j
    · subst hij
      have hne : ((i : Int) != (i : Int)) = false := by simp
      have HE : Hid (swapR M (m - i) m i 0 t = rotate M a m b s) := Lib.hid (by
        have := HI.out.2
        unfold rotL at this
        rw [if_pos rfl] at this
        exact this)
      have hC := HS.out (m - i) m i (by omega) (by omega) t wr HI.out.1 (by rw [HE.out]; exact H0.out.2)
      rw [HM1.out] at hC
      have HC := Lib.hid hC; clear hC
      go_wp2_with fail
      refine HC.out.mono ?_
      rintro e w1 ⟨rfl, hR1⟩
      obtain ⟨bx0, bx1⟩ := HBx.out _ _ hR1
      have HR1 := Lib.hid hR1; clear hR1
      go_wp2_with fail
      go_end0
      exact ⟨rfl, by rw [← HE.out]; exact HR1.out⟩
    · have hne : ((i : Int) != (j : Int)) = true := by simp; omega
      by_cases hgt : j < i
      · have hgz : (i : Int) > (j : Int) := by omega
        have HE : Hid (rotL M m f (i - j) j (swapR M (m - i) m j 0 t) = rotate M a m b s) := Lib.hid (by
          have := HI.out.2
          unfold rotL at this
          rw [if_neg hij, if_pos hgt] at this
          exact this)
        have hC := HS.out (m - i) m j (by omega) (by omega) t wr HI.out.1 (ok_rotL HG.out m f _ _ _ (by rw [HE.out]; exact H0.out.2))
        rw [HM1.out] at hC
        have HC := Lib.hid hC; clear hC
        go_wp2_with fail
        refine HC.out.mono ?_
        rintro e w1 ⟨rfl, hR1⟩
        obtain ⟨bx0, bx1⟩ := HBx.out _ _ hR1
        have HR1 := Lib.hid hR1; clear hR1
        go_wp2_with fail
        go_roundw
        case rel => exact ⟨i - j, j, f, _, by omega, by omega, by omega, by omega, by go_num, rfl, by omega, HR1.out, HE.out⟩
        case measure => simp [intOf]; omega
      · have hgz : ¬ ((i : Int) > (j : Int)) := by omega
        have HE : Hid (rotL M m f i (j - i) (swapR M (m - i) (m + j - i) i 0 t) = rotate M a m b s) := Lib.hid (by
          have := HI.out.2
          unfold rotL at this
          rw [if_neg hij, if_neg hgt] at this
          exact this)
        have hC := HS.out (m - i) (m + j - i) i (by omega) (by omega) t wr HI.out.1 (ok_rotL HG.out m f _ _ _ (by rw [HE.out]; exact H0.out.2))
        rw [HM1.out, HM2.out] at hC
        have HC := Lib.hid hC; clear hC
        go_wp2_with fail
        refine HC.out.mono ?_
        rintro e w1 ⟨rfl, hR1⟩
        obtain ⟨bx0, bx1⟩ := HBx.out _ _ hR1
        have HR1 := Lib.hid hR1; clear hR1
        go_wp2_with fail
        go_roundw
        case rel => exact ⟨i, j - i, f, _, by omega, by omega, by omega, by omega, rfl, by go_num, by omega, HR1.out, HE.out⟩
        case measure => simp [intOf]; omega

set_option maxRecDepth 100000 in
set_option maxHeartbeats 4000000 in
theorem insertionSortF (H : FuncS M ok R gl lb gs sb g n) (a b : Nat) (hab : a ≤ b) (hb : b ≤ n) (s : σ) (w : World) (hR : R s w) (hok : ok (insSort M a b s)) :
    Calls Try.prog 100 #[.agg #[.func (.func gl) #[] lb, .func (.func gs) #[] sb], .int .i64 a, .int .i64 b] w (Leaves R (insSort M a b s)) := by
  obtain ⟨R, H, hR, hout, hbx⟩ := H.box w hR 88
  refine Calls.mono ?_ (fun e w' (h : Leaves R _ e w') => ⟨h.1, hout _ _ h.2⟩)
  have HBx := Lib.hid hbx; clear hbx hout
  obtain ⟨bx0, bx1⟩ := HBx.out _ _ hR
  have hn := H.hn
  have eL := H.eL
  have HS := Lib.hid H.swap
  have HL := Lib.hid H.less
  have HG := Lib.hid H.guard
  have H0 := Lib.hid (And.intro hR hok)
  clear H hR hok
  go_enter Try.func100, Try.ntmps100
  go_wp2_with fail
  go_loopw [6] (fun vi wr => ∃ (i : Nat) (t : σ), a + 1 ≤ i ∧ (i ≤ b ∨ i = a + 1) ∧ vi = .int .i64 i ∧ Hid (R t wr ∧ insOuter M a (b - i) i t = insSort M a b s)) (fun vi _ => b - (intOf vi).toNat)
  case atStart => exact ⟨a + 1, s, Nat.le_refl _, .inr rfl, by go_num, H0.out.1, rfl⟩
  case round =>
    obtain ⟨i, t, hai, hib, rfl, HI⟩ := hrel
    obtain ⟨bx0, bx1⟩ := HBx.out _ _ HI.out.1
    by_cases hlt : i < b
    · have HE : Hid (insOuter M a (b - (i + 1)) (i + 1) (insInner M a i t) = insSort M a b s) := Lib.hid (by
        have := HI.out.2
        rw [show b - i = (b - (i + 1)) + 1 by omega] at this
        exact this)
      have HK : Hid (ok (insInner M a i t)) := Lib.hid (ok_insOuter HG.out a (b - (i + 1)) (i + 1) _ (by rw [HE.out]; exact H0.out.2))
      go_wp2_with fail
      go_loopw [7] (fun vj wr2 => ∃ (j : Nat) (u : σ), a ≤ j ∧ j ≤ i ∧ vj = .int .i64 j ∧ Hid (R u wr2 ∧ insInner M a j u = insInner M a i t)) (fun vj _ => (intOf vj).toNat)
      case atStart => exact ⟨i, t, by omega, Nat.le_refl _, rfl, HI.out.1, rfl⟩
      case round =>
        obtain ⟨j, u, haj, hji, rfl, HJ⟩ := hrel
        obtain ⟨bx0, bx1⟩ := HBx.out _ _ HJ.out.1
        by_cases hja : a < j
        · obtain ⟨j, rfl⟩ : ∃ x, j = x + 1 := ⟨j - 1, by omega⟩
          have hin : insInner M a (j + 1) u = if M.less u (j + 1) j = true then insInner M a j (M.swap (M.tick u (j + 1) j) (j + 1) j) else M.tick u (j + 1) j := by
            show (if a < j + 1 then _ else _) = _
            rw [if_pos hja]
          have hjz : ((j + 1 : Nat) : Int) > (a : Int) := by omega
          have hcj : ((j : Nat) : Int) = ((j + 1 : Nat) : Int) - 1 := by omega
          cases hv : M.less u (j + 1) j
          · rw [hv, if_neg (by simp), HJ.out.2] at hin
            have hL := HL.out u wr (j + 1) j (by omega) (by omega) HJ.out.1 (by rw [← hin]; exact HK.out)
            rw [hv, hcj] at hL
            have HC := Lib.hid hL; have HN := Lib.hid hin
            clear hL hin hv hcj
            generalize hj1 : j + 1 = j1 at *
            go_wp2_with fail
            refine HC.out.mono ?_
            rintro e w1 ⟨rfl, hR1⟩
            obtain ⟨bx0, bx1⟩ := HBx.out _ _ hR1
            have HR1 := Lib.hid hR1; clear hR1
            go_wp2_with fail
            go_roundw
            case rel => exact ⟨i + 1, insInner M a i t, by omega, .inl (by omega), by go_num, by rw [HN.out]; exact HR1.out, HE.out⟩
            case measure => simp [intOf]; omega
          · rw [hv, if_pos rfl, HJ.out.2] at hin
            have hok1 : ok (M.swap (M.tick u (j + 1) j) (j + 1) j) := ok_insInner HG.out a j _ (by rw [← hin]; exact HK.out)
            have hL := HL.out u wr (j + 1) j (by omega) (by omega) HJ.out.1 (HG.out.swap _ _ _ hok1)
            have hS := fun w' hr => HS.out (M.tick u (j + 1) j) w' (j + 1) j (by omega) (by omega) hr hok1
            rw [hv, hcj] at hL
            rw [hcj] at hS
            have HC := Lib.hid hL; have HN := Lib.hid hin; have HW := Lib.hid hS; have HJ1 := Lib.hid hcj
            clear hL hin hv hcj hS hok1
            generalize hj1 : j + 1 = j1 at *
            go_wp2_with fail
            refine HC.out.mono ?_
            rintro e w1 ⟨rfl, hR1⟩
            obtain ⟨bx0, bx1⟩ := HBx.out _ _ hR1
            have HR1 := Lib.hid hR1; clear hR1
            obtain ⟨w2, hW2, hR2⟩ := HW.out _ HR1.out
            obtain ⟨bx2, bx3⟩ := HBx.out _ _ hR2
            have HR2 := Lib.hid hR2; clear hR2
            go_wp2_with fail
            go_roundw
            case rel => exact ⟨j, _, by omega, by omega, by rw [HJ1.out], HR2.out, HN.out.symm⟩
            case measure => simp [intOf]; omega
        · have hjz : ¬ ((j : Int) > (a : Int)) := by omega
          have HN : Hid (insInner M a j u = u) := Lib.hid (by
            cases j with
            | zero => rfl
            | succ j => show (if a < j + 1 then _ else _) = _; rw [if_neg hja])
          go_wp2_with fail
          go_roundw
          case rel => exact ⟨i + 1, insInner M a i t, by omega, .inl (by omega), by go_num, by rw [← HJ.out.2, HN.out]; exact HJ.out.1, HE.out⟩
          case measure => simp [intOf]; omega
    · go_wp2_with fail
      go_end0
      exact ⟨rfl, by
        have := HI.out.2
        rw [show b - i = 0 by omega] at this
        rw [← this]; exact HI.out.1⟩
end
end Go.Proofs.Ytjammaglboehcaa

namespace Go.Proofs.Ytjammaglboehcaa
open Go.RowKit Go.Proofs
set_option linter.unusedVariables false

section
variable {σ : Type} {M : Mach σ} {ok : σ → Prop} {R : σ → World → Prop} {gl : Nat} {lb : Array Value} {gs : Nat} {sb : Array Value} {g n : Nat}

set_option maxRecDepth 100000 in
set_option maxHeartbeats 4000000 in
theorem symMergeF1 (H : FuncS M ok R gl lb gs sb g n) (f a m b : Nat) (ham : m = a + 1) (hmb : m < b) (hb : b ≤ n) (s : σ) (w : World) (hR : R s w) (hok : ok (symM M (f + 1) a m b s)) :
    Calls Try.prog 101 #[.agg #[.func (.func gl) #[] lb, .func (.func gs) #[] sb], .int .i64 a, .int .i64 m, .int .i64 b] w (Leaves R (symM M (f + 1) a m b s)) := by
  obtain ⟨R, H, hR, hout, hbx⟩ := H.box w hR 88
  refine Calls.mono ?_ (fun e w' (h : Leaves R _ e w') => ⟨h.1, hout _ _ h.2⟩)
  have HBx := Lib.hid hbx; clear hbx hout
  obtain ⟨bx0, bx1⟩ := HBx.out _ _ hR
  have hn := H.hn
  have eL := H.eL
  have HS := Lib.hid H.swap
  have HL := Lib.hid H.less
  have HG := Lib.hid H.guard
  have hd1 : ((m : Int) - (a : Int) == 1) = true := by simp; omega
  have hd2 : (m : Int) - (a : Int) = 1 := by omega
  have hsy : symM M (f + 1) a m b s = swapR M a (a + 1) ((bsr M (fun h => h) (fun _ => a) true m b s).1 - 1 - a) 0 (bsr M (fun h => h) (fun _ => a) true m b s).2 := by
    show (if m - a = 1 then _ else _) = _
    rw [if_pos (by omega)]
  rw [hsy] at hok ⊢
  have HK := Lib.hid (ok_swapR HG.out _ _ _ _ _ hok)
  have H0 := Lib.hid (And.intro hR hok)
  have hlo : a < m ∧ m ≤ a + 1 := by omega
  clear H hR hok hsy ham
  go_enter Try.func101, Try.ntmps101
  go_wp2_with fail
  go_loopw [8, 9] (fun vi vj wr => ∃ (i j fu : Nat) (t : σ), m ≤ i ∧ i ≤ j ∧ j ≤ b ∧ vi = .int .i64 i ∧ vj = .int .i64 j ∧ j - i ≤ fu ∧ Hid (R t wr ∧ bsL M (fun h => h) (fun _ => a) true fu i j t = bsr M (fun h => h) (fun _ => a) true m b s)) (fun vi vj _ => (intOf vj).toNat - (intOf vi).toNat)
  case atStart => exact ⟨m, b, b - m, s, Nat.le_refl _, by omega, Nat.le_refl _, by go_num, by go_num, Nat.le_refl _, H0.out.1, rfl⟩
  case round =>
    obtain ⟨i, j, fu, t, hi, hij, hj, rfl, rfl, hfu, HI⟩ := hrel
    obtain ⟨bx0, bx1⟩ := HBx.out _ _ HI.out.1
    by_cases hlt : i < j
    · obtain ⟨fu, rfl⟩ : ∃ g, fu = g + 1 := ⟨fu - 1, by omega⟩
      have hm : i ≤ (i + j) / 2 ∧ (i + j) / 2 < j := by omega
      cases hv0 : M.less t ((i + j) / 2) a
      · skip
        have hv := hv0
        have HE := Lib.hid (HI.out.2.symm.trans (bsL_dn hlt (by rw [hv]; simp))); clear hv0
        have hC := HL.out t wr (((i + j) / 2)) (a) (by omega) (by omega) HI.out.1 (ok_bsL HG.out _ _ _ _ _ _ _ (by rw [← HE.out]; exact HK.out))
        rw [hv] at hC
        have HC := Lib.hid hC; clear hC hv
        go_wp2_with fail
        rw [show ((i : Int) + (j : Int)) / 2 = (((i + j) / 2 : Nat) : Int) by omega]
        refine HC.out.mono ?_
        rintro e w1 ⟨rfl, hR1⟩
        obtain ⟨bx0, bx1⟩ := HBx.out _ _ hR1
        have HR1 := Lib.hid hR1; clear hR1
        go_wp2_with fail
        go_roundw
        case rel => exact ⟨i, (i + j) / 2, fu, _, hi, by omega, by omega, rfl, rfl, by omega, HR1.out, HE.out.symm⟩
        case measure => simp [intOf]; omega
      · skip
        have hv := hv0
        have HE := Lib.hid (HI.out.2.symm.trans (bsL_up hlt hv)); clear hv0
        have hC := HL.out t wr (((i + j) / 2)) (a) (by omega) (by omega) HI.out.1 (ok_bsL HG.out _ _ _ _ _ _ _ (by rw [← HE.out]; exact HK.out))
        rw [hv] at hC
        have HC := Lib.hid hC; clear hC hv
        go_wp2_with fail
        rw [show ((i : Int) + (j : Int)) / 2 = (((i + j) / 2 : Nat) : Int) by omega]
        refine HC.out.mono ?_
        rintro e w1 ⟨rfl, hR1⟩
        obtain ⟨bx0, bx1⟩ := HBx.out _ _ hR1
        have HR1 := Lib.hid hR1; clear hR1
        go_wp2_with fail
        go_roundw
        case rel => exact ⟨(i + j) / 2 + 1, j, fu, _, by omega, by omega, hj, by go_num, rfl, by omega, HR1.out, HE.out.symm⟩
        case measure => simp [intOf]; omega
    · obtain rfl : i = j := by omega
      have HE := Lib.hid (HI.out.2.symm.trans (bsL_stop (by omega))); clear hlt
      have HF : Hid (swapR M a (a + 1) ((bsr M (fun h => h) (fun _ => a) true m b s).1 - 1 - a) 0 (bsr M (fun h => h) (fun _ => a) true m b s).2 = swapR M a (a + 1) (i - 1 - a) 0 t) := Lib.hid (by rw [HE.out])
      have HO : Hid (ok (swapR M a (a + 1) (i - 1 - a) 0 t)) := Lib.hid (by rw [← HF.out]; exact H0.out.2)
      go_wp2_with fail
      go_loopw [11] (fun vk wr => ∃ (k : Nat) (u : σ), a ≤ k ∧ k ≤ i - 1 ∧ vk = .int .i64 k ∧ Hid (R u wr ∧ swapR M a (a + 1) (i - 1 - k) (k - a) u = swapR M a (a + 1) (i - 1 - a) 0 t)) (fun vk _ => i - (intOf vk).toNat)
      case atStart => exact ⟨a, t, Nat.le_refl _, by omega, rfl, HI.out.1, by rw [Nat.sub_self]⟩
      case round =>
        obtain ⟨k, u, hak, hki, rfl, HJ⟩ := hrel
        obtain ⟨bx0, bx1⟩ := HBx.out _ _ HJ.out.1
        by_cases hlt : k < i - 1
        · have hlz : (k : Int) < (i : Int) - 1 := by omega
          have HN : Hid (swapR M a (a + 1) (i - 1 - (k + 1)) (k + 1 - a) (M.swap u k (k + 1)) = swapR M a (a + 1) (i - 1 - a) 0 t) := Lib.hid (by
            have := HJ.out.2
            rw [show i - 1 - k = (i - 1 - (k + 1)) + 1 by omega] at this
            rw [← this, show k + 1 - a = (k - a) + 1 by omega]
            show _ = swapR M a (a + 1) (i - 1 - (k + 1)) (k - a + 1) (M.swap u (a + (k - a)) (a + 1 + (k - a)))
            rw [show a + (k - a) = k by omega, show a + 1 + (k - a) = k + 1 by omega])
          obtain ⟨w1, hC, hR1⟩ := HS.out u wr k (k + 1) (by omega) (by omega) HJ.out.1 (ok_swapR HG.out _ _ _ _ _ (by rw [HN.out]; exact HO.out))
          rw [Int.natCast_add, Int.natCast_one] at hC
          have HR1 := Lib.hid hR1; obtain ⟨bx2, bx3⟩ := HBx.out _ _ hR1; clear hR1
          go_wp2_with fail
          go_roundw
          case rel => exact ⟨k + 1, _, by omega, by omega, by go_num, HR1.out, HN.out⟩
          case measure => simp [intOf]; omega
        · have hlz : ¬ ((k : Int) < (i : Int) - 1) := by omega
          go_wp2_with fail
          go_end0
          exact ⟨rfl, by
            have := HJ.out.2
            rw [show i - 1 - k = 0 by omega] at this
            rw [HF.out, ← this]; exact HJ.out.1⟩

set_option maxRecDepth 100000 in
set_option maxHeartbeats 4000000 in
theorem symMergeF2 (H : FuncS M ok R gl lb gs sb g n) (f a m b : Nat) (ham : a + 1 < m) (hmb : b = m + 1) (hb : b ≤ n) (s : σ) (w : World) (hR : R s w) (hok : ok (symM M (f + 1) a m b s)) :
    Calls Try.prog 101 #[.agg #[.func (.func gl) #[] lb, .func (.func gs) #[] sb], .int .i64 a, .int .i64 m, .int .i64 b] w (Leaves R (symM M (f + 1) a m b s)) := by
  obtain ⟨R, H, hR, hout, hbx⟩ := H.box w hR 88
  refine Calls.mono ?_ (fun e w' (h : Leaves R _ e w') => ⟨h.1, hout _ _ h.2⟩)
  have HBx := Lib.hid hbx; clear hbx hout
  obtain ⟨bx0, bx1⟩ := HBx.out _ _ hR
  have hn := H.hn
  have eL := H.eL
  have HS := Lib.hid H.swap
  have HL := Lib.hid H.less
  have HG := Lib.hid H.guard
  have hd1 : ((m : Int) - (a : Int) == 1) = false := by simp; omega
  have hd2 : ((b : Int) - (m : Int) == 1) = true := by simp; omega
  have hd3 : ¬ ((m : Int) - (a : Int) = 1) := by omega
  have hd4 : (b : Int) - (m : Int) = 1 := by omega
  have hsy : symM M (f + 1) a m b s = swapDn M (m - (bsr M (fun _ => m) (fun h => h) false a m s).1) m (bsr M (fun _ => m) (fun h => h) false a m s).2 := by
    show (if m - a = 1 then _ else if b - m = 1 then _ else _) = _
    rw [if_neg (by omega), if_pos (by omega)]
  rw [hsy] at hok ⊢
  have HK := Lib.hid (ok_swapDn HG.out _ _ _ hok)
  have H0 := Lib.hid (And.intro hR hok)
  have hlo : m < b ∧ b ≤ m + 1 := by omega
  clear H hR hok hsy hmb
  go_enter Try.func101, Try.ntmps101
  go_wp2_with fail
  go_loopw [12, 13] (fun vi vj wr => ∃ (i j fu : Nat) (t : σ), a ≤ i ∧ i ≤ j ∧ j ≤ m ∧ vi = .int .i64 i ∧ vj = .int .i64 j ∧ j - i ≤ fu ∧ Hid (R t wr ∧ bsL M (fun _ => m) (fun h => h) false fu i j t = bsr M (fun _ => m) (fun h => h) false a m s)) (fun vi vj _ => (intOf vj).toNat - (intOf vi).toNat)
  case atStart => exact ⟨a, m, m - a, s, Nat.le_refl _, by omega, Nat.le_refl _, by go_num, by go_num, Nat.le_refl _, H0.out.1, rfl⟩
  case round =>
    obtain ⟨i, j, fu, t, hi, hij, hj, rfl, rfl, hfu, HI⟩ := hrel
    obtain ⟨bx0, bx1⟩ := HBx.out _ _ HI.out.1
    by_cases hlt : i < j
    · obtain ⟨fu, rfl⟩ : ∃ g, fu = g + 1 := ⟨fu - 1, by omega⟩
      have hm : i ≤ (i + j) / 2 ∧ (i + j) / 2 < j := by omega
      cases hv0 : M.less t m ((i + j) / 2)
      · skip
        have hv := hv0
        have HE := Lib.hid (HI.out.2.symm.trans (bsL_up hlt hv)); clear hv0
        have hC := HL.out t wr (m) (((i + j) / 2)) (by omega) (by omega) HI.out.1 (ok_bsL HG.out _ _ _ _ _ _ _ (by rw [← HE.out]; exact HK.out))
        rw [hv] at hC
        have HC := Lib.hid hC; clear hC hv
        go_wp2_with fail
        rw [show ((i : Int) + (j : Int)) / 2 = (((i + j) / 2 : Nat) : Int) by omega]
        refine HC.out.mono ?_
        rintro e w1 ⟨rfl, hR1⟩
        obtain ⟨bx0, bx1⟩ := HBx.out _ _ hR1
        have HR1 := Lib.hid hR1; clear hR1
        go_wp2_with fail
        go_roundw
        case rel => exact ⟨(i + j) / 2 + 1, j, fu, _, by omega, by omega, hj, by go_num, rfl, by omega, HR1.out, HE.out.symm⟩
        case measure => simp [intOf]; omega
      · skip
        have hv := hv0
        have HE := Lib.hid (HI.out.2.symm.trans (bsL_dn hlt (by rw [hv]; simp))); clear hv0
        have hC := HL.out t wr (m) (((i + j) / 2)) (by omega) (by omega) HI.out.1 (ok_bsL HG.out _ _ _ _ _ _ _ (by rw [← HE.out]; exact HK.out))
        rw [hv] at hC
        have HC := Lib.hid hC; clear hC hv
        go_wp2_with fail
        rw [show ((i : Int) + (j : Int)) / 2 = (((i + j) / 2 : Nat) : Int) by omega]
        refine HC.out.mono ?_
        rintro e w1 ⟨rfl, hR1⟩
        obtain ⟨bx0, bx1⟩ := HBx.out _ _ hR1
        have HR1 := Lib.hid hR1; clear hR1
        go_wp2_with fail
        go_roundw
        case rel => exact ⟨i, (i + j) / 2, fu, _, hi, by omega, by omega, rfl, rfl, by omega, HR1.out, HE.out.symm⟩
        case measure => simp [intOf]; omega
    · obtain rfl : i = j := by omega
      have HE := Lib.hid (HI.out.2.symm.trans (bsL_stop (by omega))); clear hlt
      have HF : Hid (swapDn M (m - (bsr M (fun _ => m) (fun h => h) false a m s).1) m (bsr M (fun _ => m) (fun h => h) false a m s).2 = swapDn M (m - i) m t) := Lib.hid (by rw [HE.out])
      have HO : Hid (ok (swapDn M (m - i) m t)) := Lib.hid (by rw [← HF.out]; exact H0.out.2)
      go_wp2_with fail
      go_loopw [15] (fun vk wr => ∃ (k : Nat) (u : σ), i ≤ k ∧ k ≤ m ∧ vk = .int .i64 k ∧ Hid (R u wr ∧ swapDn M (k - i) k u = swapDn M (m - i) m t)) (fun vk _ => (intOf vk).toNat)
      case atStart => exact ⟨m, t, by omega, Nat.le_refl _, rfl, HI.out.1, rfl⟩
      case round =>
        obtain ⟨k, u, hik, hkm, rfl, HJ⟩ := hrel
        obtain ⟨bx0, bx1⟩ := HBx.out _ _ HJ.out.1
        by_cases hlt : i < k
        · obtain ⟨k, rfl⟩ : ∃ x, k = x + 1 := ⟨k - 1, by omega⟩
          have HN : Hid (swapDn M (k - i) k (M.swap u (k + 1) k) = swapDn M (m - i) m t) := Lib.hid (by
            have := HJ.out.2
            rw [show k + 1 - i = (k - i) + 1 by omega] at this
            exact this)
          obtain ⟨w1, hC, hR1⟩ := HS.out u wr (k + 1) k (by omega) (by omega) HJ.out.1 (ok_swapDn HG.out _ _ _ (by rw [HN.out]; exact HO.out))
          have hck : ((k : Nat) : Int) = ((k + 1 : Nat) : Int) - 1 := by omega
          rw [hck] at hC
          have hgz : ((k + 1 : Nat) : Int) > (i : Int) := by omega
          have HR1 := Lib.hid hR1; obtain ⟨bx2, bx3⟩ := HBx.out _ _ hR1; have HKc := Lib.hid hck; clear hR1 hck
          generalize hk1 : k + 1 = k1 at *
          go_wp2_with fail
          go_roundw
          case rel => exact ⟨k, _, by omega, by omega, by rw [HKc.out], HR1.out, HN.out⟩
          case measure => simp [intOf]; omega
        · have hgz : ¬ ((k : Int) > (i : Int)) := by omega
          go_wp2_with fail
          go_end0
          exact ⟨rfl, by
            have := HJ.out.2
            rw [show k - i = 0 by omega] at this
            rw [HF.out, ← this]; exact HJ.out.1⟩
end
end Go.Proofs.Ytjammaglboehcaa

namespace Go.Proofs.Ytjammaglboehcaa
open Go.RowKit Go.Proofs
set_option linter.unusedVariables false

section
variable {σ : Type} {M : Mach σ} {ok : σ → Prop} {R : σ → World → Prop} {gl : Nat} {lb : Array Value} {gs : Nat} {sb : Array Value} {g n : Nat}


set_option maxRecDepth 100000 in
set_option maxHeartbeats 8000000 in
theorem symMergeF3b (H : FuncS M ok R gl lb gs sb g n) (f a m b : Nat) (ham : a + 1 < m) (hmb : m + 1 < b) (hb : b ≤ n) (hcd : (a + b) / 2 < m) (s : σ) (w : World) (hR : R s w) (hok : ok (symM M (f + 1) a m b s))
    (IH : ∀ (R : σ → World → Prop) (H : FuncS M ok R gl lb gs sb g n) (a m b : Nat) (s : σ) (w : World), a < m → m < b → b ≤ n → b - a ≤ f → R s w → ok (symM M f a m b s) → Calls Try.prog 101 #[.agg #[.func (.func gl) #[] lb, .func (.func gs) #[] sb], .int .i64 a, .int .i64 m, .int .i64 b] w (Leaves R (symM M f a m b s))) (hf : b - a ≤ f + 1) :
    Calls Try.prog 101 #[.agg #[.func (.func gl) #[] lb, .func (.func gs) #[] sb], .int .i64 a, .int .i64 m, .int .i64 b] w (Leaves R (symM M (f + 1) a m b s)) := by
  obtain ⟨R, H, hR, hout, hbx⟩ := H.box w hR 88
  refine Calls.mono ?_ (fun e w' (h : Leaves R _ e w') => ⟨h.1, hout _ _ h.2⟩)
  have HBx := Lib.hid hbx; clear hbx hout
  obtain ⟨bx0, bx1⟩ := HBx.out _ _ hR
  have hn := H.hn
  have eL := H.eL
  have HS := Lib.hid H.swap
  have HL := Lib.hid H.less
  have HG := Lib.hid H.guard
  have HIH := Lib.hid (IH R H); clear IH
  have HRo := Lib.hid (fun a m b ha hm hb t wr => rotateF H a m b ha hm hb t wr)
  have hd1 : ((m : Int) - (a : Int) == 1) = false := by simp; omega
  have hd2 : ((b : Int) - (m : Int) == 1) = false := by simp; omega
  have hd3 : ¬ ((m : Int) - (a : Int) = 1) := by omega
  have hd4 : ¬ ((b : Int) - (m : Int) = 1) := by omega
  generalize hmid : (a + b) / 2 = mid at *
  have hmz : ((a : Int) + (b : Int)) / 2 = (mid : Int) := by omega
  have hd5 : (m : Int) > (mid : Int) := by omega
  have hst : symMStart M a m b s = bsr M (fun c => mid + m - 1 - c) (fun c => c) false (mid + m - b) (mid) s := by
    unfold symMStart
    rw [hmid, if_pos hcd]
  have hsy : symM M (f + 1) a m b s = symTail M f a m b mid (bsr M (fun c => mid + m - 1 - c) (fun c => c) false (mid + m - b) (mid) s).1 (bsr M (fun c => mid + m - 1 - c) (fun c => c) false (mid + m - b) (mid) s).2 := by
    show (if m - a = 1 then _ else if b - m = 1 then _ else _) = _
    rw [if_neg (by omega), if_neg (by omega), ← hst, ← hmid]
    rfl
  rw [hsy] at hok ⊢
  have HK := Lib.hid (ok_symTail HG.out _ _ _ _ _ _ _ hok)
  have H0 := Lib.hid (And.intro hR hok)
  have hlo : a < mid ∧ mid < b ∧ 2 * mid ≤ a + b ∧ a + b ≤ 2 * mid + 1 := by omega
  clear H hR hok hsy hst hmid
  go_enter Try.func101, Try.ntmps101
  go_wp2_with fail
  go_loopw [18, 19] (fun vi vj wr => ∃ (i j fu : Nat) (t : σ), (mid + m - b) ≤ i ∧ i ≤ j ∧ j ≤ (mid) ∧ vi = .int .i64 i ∧ vj = .int .i64 j ∧ j - i ≤ fu ∧ Hid (R t wr ∧ bsL M (fun c => mid + m - 1 - c) (fun c => c) false fu i j t = bsr M (fun c => mid + m - 1 - c) (fun c => c) false (mid + m - b) (mid) s)) (fun vi vj _ => (intOf vj).toNat - (intOf vi).toNat)
  case atStart => exact ⟨(mid + m - b), (mid), (mid) - (mid + m - b), s, Nat.le_refl _, by omega, Nat.le_refl _, by go_num, by go_num, Nat.le_refl _, H0.out.1, rfl⟩
  case round =>
    obtain ⟨i, j, fu, t, hi, hij, hj, rfl, rfl, hfu, HI⟩ := hrel
    obtain ⟨bx0, bx1⟩ := HBx.out _ _ HI.out.1
    by_cases hlt : i < j
    · obtain ⟨fu, rfl⟩ : ∃ g, fu = g + 1 := ⟨fu - 1, by omega⟩
      have hm : i ≤ (i + j) / 2 ∧ (i + j) / 2 < j := by omega
      cases hv0 : M.less t (mid + m - 1 - (i + j) / 2) ((i + j) / 2)
      · skip
        have hv := hv0
        have HE := Lib.hid (HI.out.2.symm.trans (bsL_up hlt hv)); clear hv0
        have hC := HL.out t wr ((mid + m - 1 - (i + j) / 2)) (((i + j) / 2)) (by omega) (by omega) HI.out.1 (ok_bsL HG.out _ _ _ _ _ _ _ (by rw [← HE.out]; exact HK.out))
        rw [hv] at hC
        rw [show ((mid + m - 1 - (i + j) / 2 : Nat) : Int) = (mid : Int) + (m : Int) - 1 - (((i + j) / 2 : Nat) : Int) by omega] at hC
        have HC := Lib.hid hC; clear hC hv
        go_wp2_with fail
        rw [show ((i : Int) + (j : Int)) / 2 = (((i + j) / 2 : Nat) : Int) by omega]
        refine HC.out.mono ?_
        rintro e w1 ⟨rfl, hR1⟩
        obtain ⟨bx0, bx1⟩ := HBx.out _ _ hR1
        have HR1 := Lib.hid hR1; clear hR1
        go_wp2_with fail
        go_roundw
        case rel => exact ⟨(i + j) / 2 + 1, j, fu, _, by omega, by omega, hj, by go_num, rfl, by omega, HR1.out, HE.out.symm⟩
        case measure => simp [intOf]; omega
      · skip
        have hv := hv0
        have HE := Lib.hid (HI.out.2.symm.trans (bsL_dn hlt (by rw [hv]; simp))); clear hv0
        have hC := HL.out t wr ((mid + m - 1 - (i + j) / 2)) (((i + j) / 2)) (by omega) (by omega) HI.out.1 (ok_bsL HG.out _ _ _ _ _ _ _ (by rw [← HE.out]; exact HK.out))
        rw [hv] at hC
        rw [show ((mid + m - 1 - (i + j) / 2 : Nat) : Int) = (mid : Int) + (m : Int) - 1 - (((i + j) / 2 : Nat) : Int) by omega] at hC
        have HC := Lib.hid hC; clear hC hv
        go_wp2_with fail
        rw [show ((i : Int) + (j : Int)) / 2 = (((i + j) / 2 : Nat) : Int) by omega]
        refine HC.out.mono ?_
        rintro e w1 ⟨rfl, hR1⟩
        obtain ⟨bx0, bx1⟩ := HBx.out _ _ hR1
        have HR1 := Lib.hid hR1; clear hR1
        go_wp2_with fail
        go_roundw
        case rel => exact ⟨i, (i + j) / 2, fu, _, hi, by omega, by omega, rfl, rfl, by omega, HR1.out, HE.out.symm⟩
        case measure => simp [intOf]; omega
    · obtain rfl : i = j := by omega
      have HE := Lib.hid (HI.out.2.symm.trans (bsL_stop (by omega))); clear hlt
      obtain ⟨e, heN⟩ : ∃ e : Nat, mid + m - i = e := ⟨_, rfl⟩
      have hez : (mid : Int) + (m : Int) - (i : Int) = (e : Int) := by omega
      have hee : e + i = mid + m := by omega
      have HeN := Lib.hid heN; clear heN
      by_cases him : i < mid
      · by_cases hai : a < i
        · by_cases heb : e < b
          · skip
            have hq00 : (i : Int) < (m : Int) := by omega
            have hq01 : (m : Int) < (e : Int) := by omega
            have hq10 : (a : Int) < (i : Int) := by omega
            have hq11 : (i : Int) < (mid : Int) := by omega
            have hq20 : (mid : Int) < (e : Int) := by omega
            have hq21 : (e : Int) < (b : Int) := by omega
            have HT : Hid (symTail M f a m b mid (bsr M (fun c => mid + m - 1 - c) (fun c => c) false (mid + m - b) (mid) s).1 (bsr M (fun c => mid + m - 1 - c) (fun c => c) false (mid + m - b) (mid) s).2 = symM M f mid e b (symM M f a i mid (rotate M i m e t))) := Lib.hid (by
              rw [HE.out]
              unfold symTail
              dsimp only
              rw [HeN.out, if_pos (show i < m ∧ m < e by omega), if_pos (show a < i ∧ i < mid by omega), if_pos (show mid < e ∧ e < b by omega)])
            have HO : Hid (ok (symM M f mid e b (symM M f a i mid (rotate M i m e t)))) := Lib.hid (by rw [← HT.out]; exact H0.out.2)
            go_wp2_with fail
            refine (HRo.out i m e (by omega) (by omega) (by omega) _ _ HI.out.1 (ok_symM HG.out f _ _ _ _ (ok_symM HG.out f _ _ _ _ (HO.out)))).mono ?_
            rintro ed v1 ⟨rfl, hr1⟩
            obtain ⟨bx0, bx1⟩ := HBx.out _ _ hr1
            have V1 := Lib.hid hr1; clear hr1
            go_wp2_with fail
            refine (HIH.out a i mid _ _ (by omega) (by omega) (by omega) (by omega) V1.out (ok_symM HG.out f _ _ _ _ (HO.out))).mono ?_
            rintro ed v2 ⟨rfl, hr2⟩
            obtain ⟨bx0, bx1⟩ := HBx.out _ _ hr2
            have V2 := Lib.hid hr2; clear hr2
            go_wp2_with fail
            refine (HIH.out mid e b _ _ (by omega) (by omega) (by omega) (by omega) V2.out (HO.out)).mono ?_
            rintro ed v3 ⟨rfl, hr3⟩
            obtain ⟨bx0, bx1⟩ := HBx.out _ _ hr3
            have V3 := Lib.hid hr3; clear hr3
            go_wp2_with fail
            go_end0
            exact ⟨rfl, by rw [HT.out]; exact V3.out⟩
          · skip
            have hq00 : (i : Int) < (m : Int) := by omega
            have hq01 : (m : Int) < (e : Int) := by omega
            have hq10 : (a : Int) < (i : Int) := by omega
            have hq11 : (i : Int) < (mid : Int) := by omega
            have hq20 : (mid : Int) < (e : Int) := by omega
            have hq21 : ¬ ((e : Int) < (b : Int)) := by omega
            have HT : Hid (symTail M f a m b mid (bsr M (fun c => mid + m - 1 - c) (fun c => c) false (mid + m - b) (mid) s).1 (bsr M (fun c => mid + m - 1 - c) (fun c => c) false (mid + m - b) (mid) s).2 = symM M f a i mid (rotate M i m e t)) := Lib.hid (by
              rw [HE.out]
              unfold symTail
              dsimp only
              rw [HeN.out, if_pos (show i < m ∧ m < e by omega), if_pos (show a < i ∧ i < mid by omega), if_neg (show ¬ (mid < e ∧ e < b) by omega)])
            have HO : Hid (ok (symM M f a i mid (rotate M i m e t))) := Lib.hid (by rw [← HT.out]; exact H0.out.2)
            go_wp2_with fail
            refine (HRo.out i m e (by omega) (by omega) (by omega) _ _ HI.out.1 (ok_symM HG.out f _ _ _ _ (HO.out))).mono ?_
            rintro ed v1 ⟨rfl, hr1⟩
            obtain ⟨bx0, bx1⟩ := HBx.out _ _ hr1
            have V1 := Lib.hid hr1; clear hr1
            go_wp2_with fail
            refine (HIH.out a i mid _ _ (by omega) (by omega) (by omega) (by omega) V1.out (HO.out)).mono ?_
            rintro ed v2 ⟨rfl, hr2⟩
            obtain ⟨bx0, bx1⟩ := HBx.out _ _ hr2
            have V2 := Lib.hid hr2; clear hr2
            go_wp2_with fail
            go_end0
            exact ⟨rfl, by rw [HT.out]; exact V2.out⟩
        · by_cases heb : e < b
          · skip
            have hq00 : (i : Int) < (m : Int) := by omega
            have hq01 : (m : Int) < (e : Int) := by omega
            have hq10 : ¬ ((a : Int) < (i : Int)) := by omega
            have hq20 : (mid : Int) < (e : Int) := by omega
            have hq21 : (e : Int) < (b : Int) := by omega
            have HT : Hid (symTail M f a m b mid (bsr M (fun c => mid + m - 1 - c) (fun c => c) false (mid + m - b) (mid) s).1 (bsr M (fun c => mid + m - 1 - c) (fun c => c) false (mid + m - b) (mid) s).2 = symM M f mid e b (rotate M i m e t)) := Lib.hid (by
              rw [HE.out]
              unfold symTail
              dsimp only
              rw [HeN.out, if_pos (show i < m ∧ m < e by omega), if_neg (show ¬ (a < i ∧ i < mid) by omega), if_pos (show mid < e ∧ e < b by omega)])
            have HO : Hid (ok (symM M f mid e b (rotate M i m e t))) := Lib.hid (by rw [← HT.out]; exact H0.out.2)
            go_wp2_with fail
            refine (HRo.out i m e (by omega) (by omega) (by omega) _ _ HI.out.1 (ok_symM HG.out f _ _ _ _ (HO.out))).mono ?_
            rintro ed v1 ⟨rfl, hr1⟩
            obtain ⟨bx0, bx1⟩ := HBx.out _ _ hr1
            have V1 := Lib.hid hr1; clear hr1
            go_wp2_with fail
            refine (HIH.out mid e b _ _ (by omega) (by omega) (by omega) (by omega) V1.out (HO.out)).mono ?_
            rintro ed v2 ⟨rfl, hr2⟩
            obtain ⟨bx0, bx1⟩ := HBx.out _ _ hr2
            have V2 := Lib.hid hr2; clear hr2
            go_wp2_with fail
            go_end0
            exact ⟨rfl, by rw [HT.out]; exact V2.out⟩
          · skip
            have hq00 : (i : Int) < (m : Int) := by omega
            have hq01 : (m : Int) < (e : Int) := by omega
            have hq10 : ¬ ((a : Int) < (i : Int)) := by omega
            have hq20 : (mid : Int) < (e : Int) := by omega
            have hq21 : ¬ ((e : Int) < (b : Int)) := by omega
            have HT : Hid (symTail M f a m b mid (bsr M (fun c => mid + m - 1 - c) (fun c => c) false (mid + m - b) (mid) s).1 (bsr M (fun c => mid + m - 1 - c) (fun c => c) false (mid + m - b) (mid) s).2 = rotate M i m e t) := Lib.hid (by
              rw [HE.out]
              unfold symTail
              dsimp only
              rw [HeN.out, if_pos (show i < m ∧ m < e by omega), if_neg (show ¬ (a < i ∧ i < mid) by omega), if_neg (show ¬ (mid < e ∧ e < b) by omega)])
            have HO : Hid (ok (rotate M i m e t)) := Lib.hid (by rw [← HT.out]; exact H0.out.2)
            go_wp2_with fail
            refine (HRo.out i m e (by omega) (by omega) (by omega) _ _ HI.out.1 (HO.out)).mono ?_
            rintro ed v1 ⟨rfl, hr1⟩
            obtain ⟨bx0, bx1⟩ := HBx.out _ _ hr1
            have V1 := Lib.hid hr1; clear hr1
            go_wp2_with fail
            go_end0
            exact ⟨rfl, by rw [HT.out]; exact V1.out⟩
      · skip
        have hq00 : (i : Int) < (m : Int) := by omega
        have hq01 : ¬ ((m : Int) < (e : Int)) := by omega
        have hq10 : (a : Int) < (i : Int) := by omega
        have hq11 : ¬ ((i : Int) < (mid : Int)) := by omega
        have hq20 : (mid : Int) < (e : Int) := by omega
        have hq21 : (e : Int) < (b : Int) := by omega
        have HT : Hid (symTail M f a m b mid (bsr M (fun c => mid + m - 1 - c) (fun c => c) false (mid + m - b) (mid) s).1 (bsr M (fun c => mid + m - 1 - c) (fun c => c) false (mid + m - b) (mid) s).2 = symM M f mid e b (t)) := Lib.hid (by
          rw [HE.out]
          unfold symTail
          dsimp only
          rw [HeN.out, if_neg (show ¬ (i < m ∧ m < e) by omega), if_neg (show ¬ (a < i ∧ i < mid) by omega), if_pos (show mid < e ∧ e < b by omega)])
        have HO : Hid (ok (symM M f mid e b (t))) := Lib.hid (by rw [← HT.out]; exact H0.out.2)
        go_wp2_with fail
        refine (HIH.out mid e b _ _ (by omega) (by omega) (by omega) (by omega) HI.out.1 (HO.out)).mono ?_
        rintro ed v1 ⟨rfl, hr1⟩
        obtain ⟨bx0, bx1⟩ := HBx.out _ _ hr1
        have V1 := Lib.hid hr1; clear hr1
        go_wp2_with fail
        go_end0
        exact ⟨rfl, by rw [HT.out]; exact V1.out⟩

set_option maxRecDepth 100000 in
set_option maxHeartbeats 8000000 in
theorem symMergeF3a (H : FuncS M ok R gl lb gs sb g n) (f a m b : Nat) (ham : a + 1 < m) (hmb : m + 1 < b) (hb : b ≤ n) (hcd : m ≤ (a + b) / 2) (s : σ) (w : World) (hR : R s w) (hok : ok (symM M (f + 1) a m b s))
    (IH : ∀ (R : σ → World → Prop) (H : FuncS M ok R gl lb gs sb g n) (a m b : Nat) (s : σ) (w : World), a < m → m < b → b ≤ n → b - a ≤ f → R s w → ok (symM M f a m b s) → Calls Try.prog 101 #[.agg #[.func (.func gl) #[] lb, .func (.func gs) #[] sb], .int .i64 a, .int .i64 m, .int .i64 b] w (Leaves R (symM M f a m b s))) (hf : b - a ≤ f + 1) :
    Calls Try.prog 101 #[.agg #[.func (.func gl) #[] lb, .func (.func gs) #[] sb], .int .i64 a, .int .i64 m, .int .i64 b] w (Leaves R (symM M (f + 1) a m b s)) := by
  obtain ⟨R, H, hR, hout, hbx⟩ := H.box w hR 88
  refine Calls.mono ?_ (fun e w' (h : Leaves R _ e w') => ⟨h.1, hout _ _ h.2⟩)
  have HBx := Lib.hid hbx; clear hbx hout
  obtain ⟨bx0, bx1⟩ := HBx.out _ _ hR
  have hn := H.hn
  have eL := H.eL
  have HS := Lib.hid H.swap
  have HL := Lib.hid H.less
  have HG := Lib.hid H.guard
  have HIH := Lib.hid (IH R H); clear IH
  have HRo := Lib.hid (fun a m b ha hm hb t wr => rotateF H a m b ha hm hb t wr)
  have hd1 : ((m : Int) - (a : Int) == 1) = false := by simp; omega
  have hd2 : ((b : Int) - (m : Int) == 1) = false := by simp; omega
  have hd3 : ¬ ((m : Int) - (a : Int) = 1) := by omega
  have hd4 : ¬ ((b : Int) - (m : Int) = 1) := by omega
  generalize hmid : (a + b) / 2 = mid at *
  have hmz : ((a : Int) + (b : Int)) / 2 = (mid : Int) := by omega
  have hd5 : ¬ ((m : Int) > (mid : Int)) := by omega
  have hst : symMStart M a m b s = bsr M (fun c => mid + m - 1 - c) (fun c => c) false (a) (m) s := by
    unfold symMStart
    rw [hmid, if_neg (Nat.not_lt.2 hcd)]
  have hsy : symM M (f + 1) a m b s = symTail M f a m b mid (bsr M (fun c => mid + m - 1 - c) (fun c => c) false (a) (m) s).1 (bsr M (fun c => mid + m - 1 - c) (fun c => c) false (a) (m) s).2 := by
    show (if m - a = 1 then _ else if b - m = 1 then _ else _) = _
    rw [if_neg (by omega), if_neg (by omega), ← hst, ← hmid]
    rfl
  rw [hsy] at hok ⊢
  have HK := Lib.hid (ok_symTail HG.out _ _ _ _ _ _ _ hok)
  have H0 := Lib.hid (And.intro hR hok)
  have hlo : a < mid ∧ mid < b ∧ 2 * mid ≤ a + b ∧ a + b ≤ 2 * mid + 1 := by omega
  clear H hR hok hsy hst hmid
  go_enter Try.func101, Try.ntmps101
  go_wp2_with fail
  go_loopw [18, 19] (fun vi vj wr => ∃ (i j fu : Nat) (t : σ), (a) ≤ i ∧ i ≤ j ∧ j ≤ (m) ∧ vi = .int .i64 i ∧ vj = .int .i64 j ∧ j - i ≤ fu ∧ Hid (R t wr ∧ bsL M (fun c => mid + m - 1 - c) (fun c => c) false fu i j t = bsr M (fun c => mid + m - 1 - c) (fun c => c) false (a) (m) s)) (fun vi vj _ => (intOf vj).toNat - (intOf vi).toNat)
  case atStart => exact ⟨(a), (m), (m) - (a), s, Nat.le_refl _, by omega, Nat.le_refl _, by go_num, by go_num, Nat.le_refl _, H0.out.1, rfl⟩
  case round =>
    obtain ⟨i, j, fu, t, hi, hij, hj, rfl, rfl, hfu, HI⟩ := hrel
    obtain ⟨bx0, bx1⟩ := HBx.out _ _ HI.out.1
    by_cases hlt : i < j
    · obtain ⟨fu, rfl⟩ : ∃ g, fu = g + 1 := ⟨fu - 1, by omega⟩
      have hm : i ≤ (i + j) / 2 ∧ (i + j) / 2 < j := by omega
      cases hv0 : M.less t (mid + m - 1 - (i + j) / 2) ((i + j) / 2)
      · skip
        have hv := hv0
        have HE := Lib.hid (HI.out.2.symm.trans (bsL_up hlt hv)); clear hv0
        have hC := HL.out t wr ((mid + m - 1 - (i + j) / 2)) (((i + j) / 2)) (by omega) (by omega) HI.out.1 (ok_bsL HG.out _ _ _ _ _ _ _ (by rw [← HE.out]; exact HK.out))
        rw [hv] at hC
        rw [show ((mid + m - 1 - (i + j) / 2 : Nat) : Int) = (mid : Int) + (m : Int) - 1 - (((i + j) / 2 : Nat) : Int) by omega] at hC
        have HC := Lib.hid hC; clear hC hv
        go_wp2_with fail
        rw [show ((i : Int) + (j : Int)) / 2 = (((i + j) / 2 : Nat) : Int) by omega]
        refine HC.out.mono ?_
        rintro e w1 ⟨rfl, hR1⟩
        obtain ⟨bx0, bx1⟩ := HBx.out _ _ hR1
        have HR1 := Lib.hid hR1; clear hR1
        go_wp2_with fail
        go_roundw
        case rel => exact ⟨(i + j) / 2 + 1, j, fu, _, by omega, by omega, hj, by go_num, rfl, by omega, HR1.out, HE.out.symm⟩
        case measure => simp [intOf]; omega
      · skip
        have hv := hv0
        have HE := Lib.hid (HI.out.2.symm.trans (bsL_dn hlt (by rw [hv]; simp))); clear hv0
        have hC := HL.out t wr ((mid + m - 1 - (i + j) / 2)) (((i + j) / 2)) (by omega) (by omega) HI.out.1 (ok_bsL HG.out _ _ _ _ _ _ _ (by rw [← HE.out]; exact HK.out))
        rw [hv] at hC
        rw [show ((mid + m - 1 - (i + j) / 2 : Nat) : Int) = (mid : Int) + (m : Int) - 1 - (((i + j) / 2 : Nat) : Int) by omega] at hC
        have HC := Lib.hid hC; clear hC hv
        go_wp2_with fail
        rw [show ((i : Int) + (j : Int)) / 2 = (((i + j) / 2 : Nat) : Int) by omega]
        refine HC.out.mono ?_
        rintro e w1 ⟨rfl, hR1⟩
        obtain ⟨bx0, bx1⟩ := HBx.out _ _ hR1
        have HR1 := Lib.hid hR1; clear hR1
        go_wp2_with fail
        go_roundw
        case rel => exact ⟨i, (i + j) / 2, fu, _, hi, by omega, by omega, rfl, rfl, by omega, HR1.out, HE.out.symm⟩
        case measure => simp [intOf]; omega
    · obtain rfl : i = j := by omega
      have HE := Lib.hid (HI.out.2.symm.trans (bsL_stop (by omega))); clear hlt
      obtain ⟨e, heN⟩ : ∃ e : Nat, mid + m - i = e := ⟨_, rfl⟩
      have hez : (mid : Int) + (m : Int) - (i : Int) = (e : Int) := by omega
      have hee : e + i = mid + m := by omega
      have HeN := Lib.hid heN; clear heN
      by_cases him : i < m
      · by_cases hai : a < i
        · by_cases heb : e < b
          · skip
            have hq00 : (i : Int) < (m : Int) := by omega
            have hq01 : (m : Int) < (e : Int) := by omega
            have hq10 : (a : Int) < (i : Int) := by omega
            have hq11 : (i : Int) < (mid : Int) := by omega
            have hq20 : (mid : Int) < (e : Int) := by omega
            have hq21 : (e : Int) < (b : Int) := by omega
            have HT : Hid (symTail M f a m b mid (bsr M (fun c => mid + m - 1 - c) (fun c => c) false (a) (m) s).1 (bsr M (fun c => mid + m - 1 - c) (fun c => c) false (a) (m) s).2 = symM M f mid e b (symM M f a i mid (rotate M i m e t))) := Lib.hid (by
              rw [HE.out]
              unfold symTail
              dsimp only
              rw [HeN.out, if_pos (show i < m ∧ m < e by omega), if_pos (show a < i ∧ i < mid by omega), if_pos (show mid < e ∧ e < b by omega)])
            have HO : Hid (ok (symM M f mid e b (symM M f a i mid (rotate M i m e t)))) := Lib.hid (by rw [← HT.out]; exact H0.out.2)
            go_wp2_with fail
            refine (HRo.out i m e (by omega) (by omega) (by omega) _ _ HI.out.1 (ok_symM HG.out f _ _ _ _ (ok_symM HG.out f _ _ _ _ (HO.out)))).mono ?_
            rintro ed v1 ⟨rfl, hr1⟩
            obtain ⟨bx0, bx1⟩ := HBx.out _ _ hr1
            have V1 := Lib.hid hr1; clear hr1
            go_wp2_with fail
            refine (HIH.out a i mid _ _ (by omega) (by omega) (by omega) (by omega) V1.out (ok_symM HG.out f _ _ _ _ (HO.out))).mono ?_
            rintro ed v2 ⟨rfl, hr2⟩
            obtain ⟨bx0, bx1⟩ := HBx.out _ _ hr2
            have V2 := Lib.hid hr2; clear hr2
            go_wp2_with fail
            refine (HIH.out mid e b _ _ (by omega) (by omega) (by omega) (by omega) V2.out (HO.out)).mono ?_
            rintro ed v3 ⟨rfl, hr3⟩
            obtain ⟨bx0, bx1⟩ := HBx.out _ _ hr3
            have V3 := Lib.hid hr3; clear hr3
            go_wp2_with fail
            go_end0
            exact ⟨rfl, by rw [HT.out]; exact V3.out⟩
          · skip
            have hq00 : (i : Int) < (m : Int) := by omega
            have hq01 : (m : Int) < (e : Int) := by omega
            have hq10 : (a : Int) < (i : Int) := by omega
            have hq11 : (i : Int) < (mid : Int) := by omega
            have hq20 : (mid : Int) < (e : Int) := by omega
            have hq21 : ¬ ((e : Int) < (b : Int)) := by omega
            have HT : Hid (symTail M f a m b mid (bsr M (fun c => mid + m - 1 - c) (fun c => c) false (a) (m) s).1 (bsr M (fun c => mid + m - 1 - c) (fun c => c) false (a) (m) s).2 = symM M f a i mid (rotate M i m e t)) := Lib.hid (by
              rw [HE.out]
              unfold symTail
              dsimp only
              rw [HeN.out, if_pos (show i < m ∧ m < e by omega), if_pos (show a < i ∧ i < mid by omega), if_neg (show ¬ (mid < e ∧ e < b) by omega)])
            have HO : Hid (ok (symM M f a i mid (rotate M i m e t))) := Lib.hid (by rw [← HT.out]; exact H0.out.2)
            go_wp2_with fail
            refine (HRo.out i m e (by omega) (by omega) (by omega) _ _ HI.out.1 (ok_symM HG.out f _ _ _ _ (HO.out))).mono ?_
            rintro ed v1 ⟨rfl, hr1⟩
            obtain ⟨bx0, bx1⟩ := HBx.out _ _ hr1
            have V1 := Lib.hid hr1; clear hr1
            go_wp2_with fail
            refine (HIH.out a i mid _ _ (by omega) (by omega) (by omega) (by omega) V1.out (HO.out)).mono ?_
            rintro ed v2 ⟨rfl, hr2⟩
            obtain ⟨bx0, bx1⟩ := HBx.out _ _ hr2
            have V2 := Lib.hid hr2; clear hr2
            go_wp2_with fail
            go_end0
            exact ⟨rfl, by rw [HT.out]; exact V2.out⟩
        · by_cases heb : e < b
          · skip
            have hq00 : (i : Int) < (m : Int) := by omega
            have hq01 : (m : Int) < (e : Int) := by omega
            have hq10 : ¬ ((a : Int) < (i : Int)) := by omega
            have hq20 : (mid : Int) < (e : Int) := by omega
            have hq21 : (e : Int) < (b : Int) := by omega
            have HT : Hid (symTail M f a m b mid (bsr M (fun c => mid + m - 1 - c) (fun c => c) false (a) (m) s).1 (bsr M (fun c => mid + m - 1 - c) (fun c => c) false (a) (m) s).2 = symM M f mid e b (rotate M i m e t)) := Lib.hid (by
              rw [HE.out]
              unfold symTail
              dsimp only
              rw [HeN.out, if_pos (show i < m ∧ m < e by omega), if_neg (show ¬ (a < i ∧ i < mid) by omega), if_pos (show mid < e ∧ e < b by omega)])
            have HO : Hid (ok (symM M f mid e b (rotate M i m e t))) := Lib.hid (by rw [← HT.out]; exact H0.out.2)
            go_wp2_with fail
            refine (HRo.out i m e (by omega) (by omega) (by omega) _ _ HI.out.1 (ok_symM HG.out f _ _ _ _ (HO.out))).mono ?_
            rintro ed v1 ⟨rfl, hr1⟩
            obtain ⟨bx0, bx1⟩ := HBx.out _ _ hr1
            have V1 := Lib.hid hr1; clear hr1
            go_wp2_with fail
            refine (HIH.out mid e b _ _ (by omega) (by omega) (by omega) (by omega) V1.out (HO.out)).mono ?_
            rintro ed v2 ⟨rfl, hr2⟩
            obtain ⟨bx0, bx1⟩ := HBx.out _ _ hr2
            have V2 := Lib.hid hr2; clear hr2
            go_wp2_with fail
            go_end0
            exact ⟨rfl, by rw [HT.out]; exact V2.out⟩
          · skip
            have hq00 : (i : Int) < (m : Int) := by omega
            have hq01 : (m : Int) < (e : Int) := by omega
            have hq10 : ¬ ((a : Int) < (i : Int)) := by omega
            have hq20 : (mid : Int) < (e : Int) := by omega
            have hq21 : ¬ ((e : Int) < (b : Int)) := by omega
            have HT : Hid (symTail M f a m b mid (bsr M (fun c => mid + m - 1 - c) (fun c => c) false (a) (m) s).1 (bsr M (fun c => mid + m - 1 - c) (fun c => c) false (a) (m) s).2 = rotate M i m e t) := Lib.hid (by
              rw [HE.out]
              unfold symTail
              dsimp only
              rw [HeN.out, if_pos (show i < m ∧ m < e by omega), if_neg (show ¬ (a < i ∧ i < mid) by omega), if_neg (show ¬ (mid < e ∧ e < b) by omega)])
            have HO : Hid (ok (rotate M i m e t)) := Lib.hid (by rw [← HT.out]; exact H0.out.2)
            go_wp2_with fail
            refine (HRo.out i m e (by omega) (by omega) (by omega) _ _ HI.out.1 (HO.out)).mono ?_
            rintro ed v1 ⟨rfl, hr1⟩
            obtain ⟨bx0, bx1⟩ := HBx.out _ _ hr1
            have V1 := Lib.hid hr1; clear hr1
            go_wp2_with fail
            go_end0
            exact ⟨rfl, by rw [HT.out]; exact V1.out⟩
      · by_cases hmm : m < mid
        · skip
          have hq00 : ¬ ((i : Int) < (m : Int)) := by omega
          have hq10 : (a : Int) < (i : Int) := by omega
          have hq11 : (i : Int) < (mid : Int) := by omega
          have hq20 : ¬ ((mid : Int) < (e : Int)) := by omega
          have HT : Hid (symTail M f a m b mid (bsr M (fun c => mid + m - 1 - c) (fun c => c) false (a) (m) s).1 (bsr M (fun c => mid + m - 1 - c) (fun c => c) false (a) (m) s).2 = symM M f a i mid (t)) := Lib.hid (by
            rw [HE.out]
            unfold symTail
            dsimp only
            rw [HeN.out, if_neg (show ¬ (i < m ∧ m < e) by omega), if_pos (show a < i ∧ i < mid by omega), if_neg (show ¬ (mid < e ∧ e < b) by omega)])
          have HO : Hid (ok (symM M f a i mid (t))) := Lib.hid (by rw [← HT.out]; exact H0.out.2)
          go_wp2_with fail
          refine (HIH.out a i mid _ _ (by omega) (by omega) (by omega) (by omega) HI.out.1 (HO.out)).mono ?_
          rintro ed v1 ⟨rfl, hr1⟩
          obtain ⟨bx0, bx1⟩ := HBx.out _ _ hr1
          have V1 := Lib.hid hr1; clear hr1
          go_wp2_with fail
          go_end0
          exact ⟨rfl, by rw [HT.out]; exact V1.out⟩
        · skip
          have hq00 : ¬ ((i : Int) < (m : Int)) := by omega
          have hq10 : (a : Int) < (i : Int) := by omega
          have hq11 : ¬ ((i : Int) < (mid : Int)) := by omega
          have hq20 : ¬ ((mid : Int) < (e : Int)) := by omega
          have HT : Hid (symTail M f a m b mid (bsr M (fun c => mid + m - 1 - c) (fun c => c) false (a) (m) s).1 (bsr M (fun c => mid + m - 1 - c) (fun c => c) false (a) (m) s).2 = t) := Lib.hid (by
            rw [HE.out]
            unfold symTail
            dsimp only
            rw [HeN.out, if_neg (show ¬ (i < m ∧ m < e) by omega), if_neg (show ¬ (a < i ∧ i < mid) by omega), if_neg (show ¬ (mid < e ∧ e < b) by omega)])
          have HO : Hid (ok (t)) := Lib.hid (by rw [← HT.out]; exact H0.out.2)
          go_wp2_with fail
          go_end0
          exact ⟨rfl, by rw [HT.out]; exact HI.out.1⟩

theorem symMergeF : ∀ (f : Nat) (R : σ → World → Prop) (H : FuncS M ok R gl lb gs sb g n) (a m b : Nat) (s : σ) (w : World), a < m → m < b → b ≤ n → b - a ≤ f → R s w → ok (symM M f a m b s) →
    Calls Try.prog 101 #[.agg #[.func (.func gl) #[] lb, .func (.func gs) #[] sb], .int .i64 a, .int .i64 m, .int .i64 b] w (Leaves R (symM M f a m b s))
  | 0, R, H, a, m, b, s, w, h1, h2, h3, h4, hR, hok => absurd h4 (by omega)
  | f + 1, R, H, a, m, b, s, w, h1, h2, h3, h4, hR, hok => by
    by_cases c1 : m = a + 1
    · exact symMergeF1 H f a m b c1 h2 h3 s w hR hok
    by_cases c2 : b = m + 1
    · exact symMergeF2 H f a m b (by omega) c2 h3 s w hR hok
    by_cases c3 : (a + b) / 2 < m
    · exact symMergeF3b H f a m b (by omega) (by omega) h3 c3 s w hR hok (fun R H a m b s w => symMergeF f R H a m b s w) h4
    · exact symMergeF3a H f a m b (by omega) (by omega) h3 (by omega) s w hR hok (fun R H a m b s w => symMergeF f R H a m b s w) h4
end
end Go.Proofs.Ytjammaglboehcaa

namespace Go.Proofs.Ytjammaglboehcaa
open Go.RowKit Go.Proofs
set_option linter.unusedVariables false

section
variable {σ : Type} {M : Mach σ} {ok : σ → Prop} {R : σ → World → Prop} {gl : Nat} {lb : Array Value} {gs : Nat} {sb : Array Value} {g n : Nat}

set_option maxRecDepth 100000 in
set_option maxHeartbeats 4000000 in
theorem stableF (H : FuncS M ok R gl lb gs sb g n) (s : σ) (w : World) (hR : R s w) (hok : ok (stable M n s)) :
    Calls Try.prog 65 #[.agg #[.func (.func gl) #[] lb, .func (.func gs) #[] sb], .int .i64 n] w (Leaves R (stable M n s)) := by
  obtain ⟨R, H, hR, hout, hbx⟩ := H.box w hR 88
  refine Calls.mono ?_ (fun e w' (h : Leaves R _ e w') => ⟨h.1, hout _ _ h.2⟩)
  have HBx := Lib.hid hbx; clear hbx hout
  obtain ⟨bx0, bx1⟩ := HBx.out _ _ hR
  have hn := H.hn
  have HG := Lib.hid H.guard
  have HIn := Lib.hid (fun a b hab hb t wr => insertionSortF H a b hab hb t wr)
  have HSy := Lib.hid (fun a m b t wr h1 h2 h3 => symMergeF (b - a) R H a m b t wr h1 h2 h3 (Nat.le_refl _))
  have H0 := Lib.hid (And.intro hR hok)
  have HK0 : Hid (ok (stLoop M n n 20 (insSort M (stBlocks M n n 0 s).1 n (stBlocks M n n 0 s).2))) := Lib.hid hok
  clear H hR hok
  go_enter Try.func65, Try.ntmps65
  go_wp2_with fail
  go_loopw [5, 6] (fun va vb wr => ∃ (a b k : Nat) (t : σ), a ≤ n ∧ b = a + 20 ∧ va = .int .i64 a ∧ vb = .int .i64 b ∧ n - a ≤ k ∧ Hid (R t wr ∧ stBlocks M n k a t = stBlocks M n n 0 s)) (fun va _ _ => n - (intOf va).toNat)
  case atStart => exact ⟨0, 20, n, s, Nat.zero_le _, rfl, rfl, rfl, Nat.le_refl _, H0.out.1, rfl⟩
  case round =>
    obtain ⟨a, b, k, t, han, hb20, rfl, rfl, hk, HI⟩ := hrel
    obtain ⟨bx0, bx1⟩ := HBx.out _ _ HI.out.1
    by_cases hlt : b ≤ n
    · obtain ⟨k, rfl⟩ : ∃ g, k = g + 1 := ⟨k - 1, by omega⟩
      have HE := Lib.hid (HI.out.2.symm.trans (stBlocks_go (show a + 20 ≤ n by omega)))
      have HB : Hid (ok (insSort M a b t)) := Lib.hid (by
        rw [hb20]
        exact ok_stBlocks HG.out n k _ _ (by rw [← HE.out]; exact ok_insSort HG.out _ _ _ (ok_stLoop HG.out _ _ _ _ HK0.out)))
      have HC := Lib.hid (HIn.out a b (by omega) hlt t wr HI.out.1 HB.out)
      have HB20 := Lib.hid hb20; clear hb20
      have hbz : a + 20 ≤ b ∧ b ≤ a + 20 := by have := HB20.out; omega
      go_wp2_with fail
      refine HC.out.mono ?_
      rintro e w1 ⟨rfl, hR1⟩
      obtain ⟨bx0, bx1⟩ := HBx.out _ _ hR1
      have HR1 := Lib.hid hR1; clear hR1
      go_wp2_with fail
      go_roundw
      case rel => exact ⟨b, b + 20, k, _, hlt, rfl, rfl, by go_num, by omega, HR1.out, by rw [HE.out, HB20.out]⟩
      case measure => simp [intOf]; omega
    · have HE := Lib.hid (HI.out.2.symm.trans (stBlocks_stop (show ¬ a + 20 ≤ n by omega)))
      have HK1 : Hid (ok (stLoop M n n 20 (insSort M a n t))) := Lib.hid (by have := HK0.out; rw [HE.out] at this; exact this)
      have HF1 : Hid (stLoop M n n 20 (insSort M a n t) = stable M n s) := Lib.hid (by unfold stable; rw [HE.out])
      have HC := Lib.hid (HIn.out a n han (Nat.le_refl _) t wr HI.out.1 (ok_stLoop HG.out _ _ _ _ HK1.out))
      clear HE
      go_wp2_with fail
      refine HC.out.mono ?_
      rintro e w1 ⟨rfl, hR1⟩
      obtain ⟨bx0, bx1⟩ := HBx.out _ _ hR1
      have HR1 := Lib.hid hR1; clear hR1
      go_wp2_with fail
      go_loopw [4] (fun vs wr => ∃ (bs k : Nat) (t : σ), 20 ≤ bs ∧ bs ≤ 2 * n + 20 ∧ vs = .int .i64 bs ∧ n - bs ≤ k ∧ Hid (R t wr ∧ stLoop M n k bs t = stable M n s)) (fun vs _ => n - (intOf vs).toNat)
      case atStart => exact ⟨20, n, _, Nat.le_refl _, by omega, rfl, by omega, HR1.out, HF1.out⟩
      case round =>
        clear HR1 HC HI
        obtain ⟨bs, k, t, hbs, hbn, rfl, hk, HI⟩ := hrel
        obtain ⟨bx0, bx1⟩ := HBx.out _ _ HI.out.1
        by_cases hlt2 : bs < n
        · obtain ⟨k, rfl⟩ : ∃ g, k = g + 1 := ⟨k - 1, by omega⟩
          have HE := Lib.hid (HI.out.2.symm.trans (stLoop_go hlt2))
          have HKr : Hid (ok (stRound M n bs t)) := Lib.hid (ok_stLoop HG.out _ _ _ _ (by rw [← HE.out]; exact H0.out.2))
          have HKp : Hid (ok (stPass M n bs n 0 t).2) := Lib.hid (by
            have := HKr.out
            unfold stRound at this
            dsimp only at this
            split at this
            · exact ok_symMerge HG.out _ _ _ _ this
            · exact this)
          go_wp2_with fail
          go_loopw [5, 6] (fun va vb wr => ∃ (a b q : Nat) (u : σ), a ≤ n ∧ b = a + 2 * bs ∧ va = .int .i64 a ∧ vb = .int .i64 b ∧ n - a ≤ q ∧ Hid (R u wr ∧ stPass M n bs q a u = stPass M n bs n 0 t)) (fun va _ _ => n - (intOf va).toNat)
          case atStart => exact ⟨0, 2 * bs, n, t, Nat.zero_le _, by omega, rfl, by go_num, Nat.le_refl _, HI.out.1, rfl⟩
          case round =>
            obtain ⟨a, b, q, u, han, hb2, rfl, rfl, hq, HJ⟩ := hrel
            obtain ⟨bx0, bx1⟩ := HBx.out _ _ HJ.out.1
            by_cases hlt3 : b ≤ n
            · obtain ⟨q, rfl⟩ : ∃ g, q = g + 1 := ⟨q - 1, by omega⟩
              have HE2 := Lib.hid (HJ.out.2.symm.trans (stPass_go (show a + 2 * bs ≤ n by omega)))
              have HB : Hid (ok (symMerge M a (a + bs) b u)) := Lib.hid (by
                rw [hb2]
                exact ok_stPass HG.out n bs q _ _ (by rw [← HE2.out]; exact HKp.out))
              have hC := HSy.out a (a + bs) b u wr (by omega) (by omega) hlt3 HJ.out.1 HB.out
              rw [Int.natCast_add] at hC
              have HC := Lib.hid hC; clear hC
              have HB2 := Lib.hid hb2; clear hb2
              have hbz : a + 2 * bs ≤ b ∧ b ≤ a + 2 * bs := by have := HB2.out; omega
              go_wp2_with fail
              refine HC.out.mono ?_
              rintro e w1 ⟨rfl, hR1⟩
              obtain ⟨bx0, bx1⟩ := HBx.out _ _ hR1
              have HR1 := Lib.hid hR1; clear hR1
              go_wp2_with fail
              go_roundw
              case rel => exact ⟨b, b + 2 * bs, q, _, hlt3, rfl, rfl, by go_num, by omega, HR1.out, by rw [HE2.out, ← HB2.out]; rfl⟩
              case measure => simp [intOf]; omega
            · have HE2 := Lib.hid (HJ.out.2.symm.trans (stPass_stop (show ¬ a + 2 * bs ≤ n by omega)))
              by_cases hmn : a + bs < n
              · have HRd := Lib.hid (stRound_more u HE2.out hmn)
                have hC := HSy.out a (a + bs) n u wr (by omega) hmn (Nat.le_refl _) HJ.out.1 (by have := HKr.out; rw [HRd.out] at this; exact this)
                rw [Int.natCast_add] at hC
                have HC := Lib.hid hC; clear hC
                have hmz : (a : Int) + (bs : Int) < (n : Int) := by omega
                go_wp2_with fail
                refine HC.out.mono ?_
                rintro e w1 ⟨rfl, hR1⟩
                obtain ⟨bx0, bx1⟩ := HBx.out _ _ hR1
                have HR1 := Lib.hid hR1; clear hR1
                go_wp2_with fail
                go_roundw
                case rel => exact ⟨bs * 2, k, _, by omega, by omega, by go_num, by omega, HR1.out, by rw [HE.out, HRd.out]; rfl⟩
                case measure => simp [intOf]; omega
              · have HRd := Lib.hid (stRound_less u HE2.out hmn)
                have hmz : ¬ ((a : Int) + (bs : Int) < (n : Int)) := by omega
                go_wp2_with fail
                go_roundw
                case rel => exact ⟨bs * 2, k, _, by omega, by omega, by go_num, by omega, HJ.out.1, by rw [HE.out, HRd.out]⟩
                case measure => simp [intOf]; omega
        · have HE := Lib.hid (HI.out.2.symm.trans (stLoop_stop hlt2))
          go_wp2_with fail
          go_end0
          exact ⟨rfl, by rw [HE.out]; exact HI.out.1⟩
end
end Go.Proofs.Ytjammaglboehcaa
