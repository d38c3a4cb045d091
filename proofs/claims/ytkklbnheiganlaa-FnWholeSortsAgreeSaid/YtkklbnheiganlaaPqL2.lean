/-
  Items in order by keys and tags; the walks of the laws FnSortStableTwice, FnSortSortItemsSorts.
-/
import Derived.Test.YtkklbnheiganlaaPqQ2
import Derived.Test.YtkklbnheiganlaaPqC
import Derived.Test.YtkklbnheiganlaaPlL
import Derived.Test.YtkklbnheiganlaaStL3
import Derived.Test.YtkklbnheiganlaaPqE
namespace Go.Proofs.Ytkklbnheiganlaa
open Go.RowKit Go.Proofs
set_option linter.unusedVariables false

theorem lexB_iff {x y : Int × Int} : lexB x y = true ↔ x.1 < y.1 ∨ (x.1 = y.1 ∧ x.2 < y.2) := by unfold lexB; simp
theorem lexB_no {x y : Int × Int} : lexB x y = false ↔ y.1 < x.1 ∨ (x.1 = y.1 ∧ y.2 ≤ x.2) := by
  rw [Bool.eq_false_iff, Ne, lexB_iff]; omega
/-- x does not come behind y -/
def lexL (x y : Int × Int) : Bool := !lexB y x
theorem lexL_iff {x y : Int × Int} : lexL x y = true ↔ x.1 < y.1 ∨ (x.1 = y.1 ∧ x.2 ≤ y.2) := by
  unfold lexL; rw [Bool.not_eq_true', lexB_no]; omega
theorem lin_lex : Lin lexL :=
  ⟨fun a b c h1 h2 => by rw [lexL_iff] at *; omega, fun a b => by rw [Bool.or_eq_true, lexL_iff, lexL_iff]; omega, fun a b h1 h2 => by rw [lexL_iff] at h1 h2; exact Prod.ext (by omega) (by omega)⟩
theorem lexG_swo : SwoG lexB := ⟨fun a => by rw [lexB_no]; omega, fun a b c h1 h2 => by rw [lexB_iff] at *; omega, fun a b c h1 h2 => by rw [lexB_no] at *; omega⟩
theorem lexT_swo (f : Nat → Int × Int) : Swo (lexT f) := lexG_swo.at f
theorem sortLex_asc (f : Nat → Int × Int) {n : Nat} (hn : n < 18446744073709551616) : AscG lexL (fun k => f (sortP (lexT f) n k)) n := fun i j hij hj => by
  have := sortP_sorted (lexT_swo f) hn hij hj
  unfold lexL
  rw [show lexB (f (sortP (lexT f) n j)) (f (sortP (lexT f) n i)) = false from this]; rfl
theorem sortLex_cnt (f : Nat → Int × Int) (n : Nat) (x : Int × Int) : cnt (fun k => decide (f (sortP (lexT f) n k) = x)) n = cnt (fun k => decide (f k = x)) n := sortP_count (lexT f) n (fun k => decide (f k = x))
/-- The list that is in order by keys and tags. -/
theorem sortLex_unique (f g : Nat → Int × Int) {n : Nat} (hn : n < 18446744073709551616) (hg : AscG lexL g n) (hc : ∀ x, cnt (fun k => decide (g k = x)) n = cnt (fun k => decide (f k = x)) n) : ∀ k, k < n → g k = f (sortP (lexT f) n k) :=
  asc_unique lin_lex hg (sortLex_asc f hn) fun x => by rw [hc x, sortLex_cnt f n x]

theorem keyT_yes {f : Nat → Int × Int} {i j : Nat} : keyT f i j = true ↔ (f i).1 < (f j).1 := by unfold keyT; simp
theorem keyT_no {f : Nat → Int × Int} {i j : Nat} : keyT f i j = false ↔ (f j).1 ≤ (f i).1 := by unfold keyT; simp
/-- Stably by tags, then stably by keys. -/
theorem twice_asc (f t : Nat → Int × Int) (n : Nat) (p : Nat → Nat) (hp : Ord (keyT t) p 0 n) (ht : ∀ k, (t k).1 = (f k).2) (q : Nat → Nat) (hq : PermN n q) (ho : Ord (keyT fun k => f (p k)) q 0 n) : AscG lexL (fun k => f (p (q k))) n := fun i j hij hj => by
  show lexL (f (p (q i))) (f (p (q j))) = true
  rw [lexL_iff]
  rcases ho i j (Nat.zero_le _) hij hj with h | ⟨h, hlt⟩
  · rw [keyT_yes] at h; exact .inl h
  · rw [keyT_no] at h
    have h2 : (f (p (q i))).2 ≤ (f (p (q j))).2 := by
      rcases hp (q i) (q j) (Nat.zero_le _) hlt (hq.1 j hj) with g | ⟨g, _⟩
      · rw [keyT_yes, ht, ht] at g; omega
      · rw [keyT_no, ht, ht] at g; exact g
    omega

set_option maxHeartbeats 2000000 in
theorem fnSortStableTwicew (w : World) (A : Option Addr) (n c : Nat) (f : Nat → Int × Int) (hf64 : ∀ i, I64 (f i).1 ∧ I64 (f i).2) (hl : n ≤ c) (hre : c * 16 ≤ 140737488351232) (hrd : RdI w w.heap.size A n f) :
    Calls Try.prog 9 #[.slice A n c] w fun e w' => e = .returned (.bool true) ∧ Below w.heap.size w w' := by
  have hn : n * 16 ≤ 140737488351232 := by omega
  have hnn : n ≤ 4611686018427387903 := by omega
  have HT := Lib.hid (fun w' (hb : Below w.heap.size w w') => toItems A n c w.heap.size f w' hn hb.size (hrd.keep hb (Nat.le_refl _)))
  have HTu := Lib.hid (fun g w' A1 c1 (hr : RdI w' w'.heap.size A1 n g) => turned A1 n c1 w'.heap.size g w' hn (Nat.le_refl _) hr)
  have HSt := Lib.hid (fun g w' A1 c1 (hr : RdI w' w'.heap.size A1 n g) => implSortStableItems A1 n c1 w'.heap.size g w' hn hr)
  have HSo := Lib.hid (fun w' A1 c1 (hr : RdI w' w'.heap.size A1 n f) => implSortSortWhole A1 n c1 w'.heap.size f w' hn hr)
  obtain ⟨t, ht⟩ : ∃ t, t = fun i => ((f i).2, (f i).1) := ⟨_, rfl⟩
  obtain ⟨p, hp⟩ : ∃ p, p = stable (tabM (keyT t)) n (fun k => k) := ⟨_, rfl⟩
  obtain ⟨q, hq⟩ : ∃ q, q = stable (tabM (keyT fun i => f (p i))) n (fun k => k) := ⟨_, rfl⟩
  have hfin := sortLex_unique f (fun k => f (p (q k))) (n := n) (by omega)
    (twice_asc f t n p (by rw [hp]; exact stable_ord (keyT_swo t) n) (fun k => by rw [ht]) q (by rw [hq]; exact stable_perm _ n) (by rw [hq]; exact stable_ord (keyT_swo _) n))
    (fun x => by
      have h1 : cnt (fun k => decide (f (p (q k)) = x)) n = cnt (fun k => decide (f (p k) = x)) n := by rw [hq]; exact stable_count _ n (fun k => decide (f (p k) = x))
      have h2 : cnt (fun k => decide (f (p k) = x)) n = cnt (fun k => decide (f k = x)) n := by rw [hp]; exact stable_count _ n (fun k => decide (f k = x))
      rw [h1, h2])
  have HF := Lib.hid (And.intro ht (And.intro hp (And.intro hq hfin)))
  clear hrd hf64 hre hl ht hp hq hfin
  generalize sortP (lexT f) n = s at *
  go_enter Try.func9, Try.ntmps9
  go_wp2_with fail
  refine (HT.out w (Below.refl _ _)).mono ?_
  rintro e w1 ⟨A1, c1, rfl, hr1, hb1⟩
  have HC := Lib.hid (HTu.out f w1 A1 c1 hr1)
  have HB1 := Lib.hid hb1
  clear hr1 hb1
  go_wp2_with fail
  refine HC.out.mono ?_
  rintro e w2 ⟨A2, c2, rfl, hr2, hb2⟩
  have HC2 := Lib.hid (HSt.out _ w2 A2 c2 hr2)
  have HB2 := Lib.hid (HB1.out.trans (hb2.mono HB1.out.size))
  rw [← HF.out.1, ← HF.out.2.1] at HC2
  clear hr2 hb2 HC HB1
  go_wp2_with fail
  refine HC2.out.mono ?_
  intro e w3 h3
  obtain ⟨A3, c3, rfl, hr3, hb3⟩ := h3.rd
  have HC3 := Lib.hid (HTu.out _ w3 A3 c3 hr3)
  have HB3 := Lib.hid (HB2.out.trans (hb3.mono HB2.out.size))
  rw [show (fun i => ((t (p i)).2, (t (p i)).1)) = fun i => f (p i) by rw [HF.out.1]] at HC3
  clear hr3 hb3 h3 HC2 HB2
  go_wp2_with fail
  refine HC3.out.mono ?_
  rintro e w4 ⟨A4, c4, rfl, hr4, hb4⟩
  have HC4 := Lib.hid (HSt.out _ w4 A4 c4 hr4)
  have HB4 := Lib.hid (HB3.out.trans (hb4.mono HB3.out.size))
  rw [← HF.out.2.2.1] at HC4
  clear hr4 hb4 HC3 HB3
  go_wp2_with fail
  refine HC4.out.mono ?_
  intro e w5 h5
  obtain ⟨A5, c5, rfl, hr5, hb5⟩ := h5.rd
  have HR5 := Lib.hid hr5
  have HB5 := Lib.hid (HB4.out.trans (hb5.mono HB4.out.size))
  clear hr5 hb5 h5 HC4 HB4
  have hne : ((n : Int) == (n : Int)) = true := by simp
  go_wp2_with fail
  refine (HT.out w5 HB5.out).mono ?_
  rintro e w6 ⟨A6, c6, rfl, hr6, hb6⟩
  have HC6 := Lib.hid (HSo.out w6 A6 c6 hr6)
  have HR6 := Lib.hid (HR5.out.keep hb6 (Nat.le_refl _))
  have HS6 := Lib.hid hb6.size
  have HB6 := Lib.hid (HB5.out.trans (hb6.mono HB5.out.size))
  clear hr6 hb6 HR5 HB5
  go_wp2_with fail
  refine HC6.out.mono ?_
  intro e w7 h7
  obtain ⟨A7, c7, rfl, hr7, hb7⟩ := h7.rd
  have HE := Lib.hid (sameItems n n c5 c7 A5 A7 _ _ w7 _ _ hnn hnn (HR6.out.keep hb7 HS6.out) hr7)
  have HB7 := Lib.hid (HB6.out.trans (hb7.mono HB6.out.size))
  clear hr7 hb7 h7 HR6 HB6 HC6
  go_wp2_with fail
  refine HE.out.mono ?_
  rintro e w8 ⟨b8, rfl, hb8, q8, rfl⟩
  obtain rfl : b8 = true := hb8.2 ⟨rfl, fun i hi => HF.out.2.2.2 i hi⟩
  clear hb8
  go_wp2_with fail
  go_ret
  exact ⟨rfl, below_drewN HB7.out q8⟩

theorem sortKey_asc (f : Nat → Int × Int) {n : Nat} (hn : n < 18446744073709551616) : AscF (fun k => (f (sortP (keyT f) n k)).1) n := fun i h1 h2 => by
  have := sortP_sorted (keyT_swo f) hn (show i - 1 < i by omega) h2
  rw [keyT_no] at this
  exact this

set_option maxHeartbeats 2000000 in
theorem fnSortSortItemsSortsw (w : World) (A : Option Addr) (n c : Nat) (f : Nat → Int × Int) (hf64 : ∀ i, I64 (f i).1 ∧ I64 (f i).2) (hl : n ≤ c) (hre : c * 16 ≤ 140737488351232) (hrd : RdI w w.heap.size A n f) :
    Calls Try.prog 7 #[.slice A n c] w fun e w' => e = .returned (.bool true) ∧ Below w.heap.size w w' := by
  have hn : n * 16 ≤ 140737488351232 := by omega
  have hnn : n ≤ 4611686018427387903 := by omega
  have HT := Lib.hid (fun w' (hb : Below w.heap.size w w') => toItems A n c w.heap.size f w' hn hb.size (hrd.keep hb (Nat.le_refl _)))
  have HSo := Lib.hid (fun w' A1 c1 (hr : RdI w' w'.heap.size A1 n f) => implSortSortItems A1 n c1 w'.heap.size f w' hn hr)
  have HF := Lib.hid (And.intro (sortKey_asc f (n := n) (by omega)) (sortP_count (keyT f) n))
  clear hrd hf64 hre hl
  generalize sortP (keyT f) n = s at *
  go_enter Try.func7, Try.ntmps7
  go_wp2_with fail
  refine (HT.out w (Below.refl _ _)).mono ?_
  rintro e w1 ⟨A1, c1, rfl, hr1, hb1⟩
  have HC := Lib.hid (HSo.out w1 A1 c1 hr1)
  have HB1 := Lib.hid hb1
  clear hr1 hb1
  go_wp2_with fail
  refine HC.out.mono ?_
  intro e w2 h2
  obtain ⟨A2, c2, rfl, hr2, hb2⟩ := h2.rd
  have HC2 := Lib.hid (ascendingKeys n c2 A2 _ w2 _ hnn hr2)
  have HR2 := Lib.hid hr2
  have HB2 := Lib.hid (HB1.out.trans (hb2.mono HB1.out.size))
  clear hr2 hb2 h2 HC HB1
  go_wp2_with fail
  refine HC2.out.mono ?_
  rintro e w3 ⟨b3, rfl, hb3, q3, rfl⟩
  obtain rfl : b3 = true := hb3.2 HF.out.1
  have HB3 := Lib.hid (below_drewN HB2.out q3)
  have HR3 := Lib.hid (HR2.out.drewN q3)
  clear hb3 HC2 HB2 HR2
  go_wp2_with fail
  refine (HT.out _ HB3.out).mono ?_
  rintro e w4 ⟨A4, c4, rfl, hr4, hb4⟩
  have HC4 := Lib.hid (sameElements A4 A2 n c4 c2 _ _ f (fun k => f (s k)) w4 hnn (Nat.le_refl _) hb4.size hr4 (HR3.out.keep hb4 (Nat.le_refl _)) (fun x => (HF.out.2 (fun k => decide (f k = x))).symm))
  have HB4 := Lib.hid (HB3.out.trans (hb4.mono HB3.out.size))
  clear hr4 hb4
  go_wp2_with fail
  refine HC4.out.mono ?_
  rintro e w5 ⟨rfl, hb5⟩
  have HB5 := Lib.hid (HB4.out.trans (hb5.mono HB4.out.size))
  clear hb5
  go_wp2_with fail
  go_ret
  exact ⟨rfl, HB5.out⟩
end Go.Proofs.Ytkklbnheiganlaa
