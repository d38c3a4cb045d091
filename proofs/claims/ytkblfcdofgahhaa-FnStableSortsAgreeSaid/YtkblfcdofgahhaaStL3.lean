/-
  The plain laws and the walks of the laws FnSortStableOfSorted and FnSortStableKeepsEqual.
-/
import Derived.Test.YtkblfcdofgahhaaStKy
import Derived.Test.YtkblfcdofgahhaaStG
import Derived.Test.YtkblfcdofgahhaaSame
namespace Go.Proofs.Ytkblfcdofgahhaa
open Go.RowKit Go.Proofs
set_option linter.unusedVariables false

theorem keyT_swo (f : Nat → Int × Int) : Swo (keyT f) := by
  unfold keyT
  exact ⟨fun i => by simp, fun i j k h1 h2 => by simp at h1 h2 ⊢; omega, fun i j k h1 h2 => by simp at h1 h2 ⊢; omega⟩

/-- A list that is in order stays as it is. -/
theorem stable_stays {T : Nat → Nat → Bool} (S : Swo T) {n : Nat} (h : Ord T (fun k => k) 0 n) : ∀ k, k < n → stable (tabM T) n (fun k => k) k = k := fun k hk => by
  have hp := (stable_perm T n).1 k hk
  have h1 := rank_of S (stable_count T n) (stable_ord S n) hk
  have h2 := rank_of S (count_id n) h hp
  rw [h1] at h2
  exact h2.symm

theorem ord_of_asc {f : Nat → Int × Int} {n : Nat} (h : AscF (fun k => (f k).1) n) : Ord (keyT f) (fun k => k) 0 n := fun x y _ hxy hy => by
  refine .inr ⟨?_, hxy⟩
  unfold keyT
  have := AscF.le h (Nat.le_of_lt hxy) hy
  simp only [decide_eq_false_iff_not]
  omega

theorem OutPI.rd {w w' : World} {n : Nat} {f : Nat → Int × Int} {p : Nat → Nat} {e : Ending} (h : OutPI w n f p e w') : ∃ A c, e = .returned (.slice A n c) ∧ RdI w' w'.heap.size A n (fun k => f (p k)) ∧ Below w.heap.size w w' := by
  obtain ⟨v, rfl, ⟨G, hG, hF⟩, hb⟩ := h
  obtain ⟨A, c, rfl, hr⟩ := hG.rdI hF
  exact ⟨A, c, rfl, hr, hb⟩

set_option maxHeartbeats 1000000 in
theorem fnSortStableOfSortedw (w : World) (A : Option Addr) (n c : Nat) (f : Nat → Int × Int) (hf64 : ∀ i, I64 (f i).1 ∧ I64 (f i).2) (hl : n ≤ c) (hre : c * 16 ≤ 140737488351232) (hrd : RdI w w.heap.size A n f) :
    Calls Try.prog 7 #[.slice A n c] w fun e w' => e = .returned (.bool true) ∧ Below w.heap.size w w' := by
  have hn : n * 16 ≤ 140737488351232 := by omega
  have hnn : n ≤ 4611686018427387903 := by omega
  have HT := Lib.hid (toItems A n c w.heap.size f w hn (Nat.le_refl _) hrd)
  clear hrd hf64 hre hl
  go_enter Try.func7, Try.ntmps7
  go_wp2_with fail
  refine HT.out.mono ?_
  rintro e w1 ⟨A1, c1, rfl, hr1, hb1⟩
  have HA := Lib.hid (ascendingKeys n c1 A1 f w1 _ hnn hr1)
  have HR1 := Lib.hid hr1; have HB1 := Lib.hid hb1
  clear hr1 hb1
  go_wp2_with fail
  refine HA.out.mono ?_
  rintro e w2 ⟨b2, rfl, hb2, q2, rfl⟩
  cases b2
  · clear hb2
    go_wp2_with fail
    go_ret
    exact ⟨rfl, below_drewN HB1.out q2⟩
  · have HS := Lib.hid (stable_stays (keyT_swo f) (ord_of_asc (hb2.1 rfl)))
    clear hb2
    have HI := Lib.hid (implSortStableItems A1 n c1 _ f (w1.drewN q2) hn (HR1.out.drewN q2))
    generalize stable (tabM (keyT f)) n (fun k => k) = p at *
    go_wp2_with fail
    refine HI.out.mono ?_
    intro e w3 h3
    obtain ⟨A3, c3, rfl, hr3, hb3⟩ := h3.rd
    have HE := Lib.hid (sameItems n n c3 c1 A3 A1 _ f w3 _ _ hnn hnn hr3 ((HR1.out.drewN q2).keep hb3 (Nat.le_refl _)))
    have HB3 := Lib.hid (below_drewN HB1.out q2 |>.trans (hb3.mono HB1.out.size))
    clear hr3 hb3 h3
    go_wp2_with fail
    refine HE.out.mono ?_
    rintro e w4 ⟨b4, rfl, hb4, q4, rfl⟩
    obtain rfl : b4 = true := hb4.2 ⟨rfl, fun i hi => by show f (p i) = f i; rw [HS.out i hi]⟩
    clear hb4
    go_wp2_with fail
    go_ret
    exact ⟨rfl, below_drewN HB3.out q4⟩

set_option maxRecDepth 100000 in
set_option maxHeartbeats 4000000 in
theorem fnSortStableKeepsEqualw (w : World) (A : Option Addr) (n c : Nat) (f : Nat → Int) (hf64 : ∀ i, I64 (f i)) (hl : n ≤ c) (hre : c * 8 ≤ 140737488351232) (hrd : Rd w w.heap.size (Value.int .i64) A n f) (hup : c ≤ 1048575) :
    Calls Try.prog 6 #[.slice A n c] w fun e w' => e = .returned (.bool true) ∧ Below w.heap.size w w' := by
  have hn : n * 16 ≤ 140737488351232 := by omega
  have hnn : n ≤ 1048575 := by omega
  have hne : ((n : Int) != (n : Int)) = false := by simp
  have HT := Lib.hid (numbered A n c w.heap.size f w hn (Nat.le_refl _) hrd)
  have hO := stable_ord (keyT_swo fun i => (f i, (i : Int))) n
  have HI := Lib.hid (fun w1 A1 c1 hr => implSortStableItems A1 n c1 w1.heap.size (fun i => (f i, (i : Int))) w1 hn hr)
  have HO := Lib.hid hO
  clear hrd hf64 hre hl hup hO
  generalize stable (tabM (keyT fun i => (f i, (i : Int)))) n (fun k => k) = p at *
  go_enter Try.func6, Try.ntmps6
  go_wp2_with fail
  refine HT.out.mono ?_
  rintro e w1 ⟨A1, c1, rfl, hr1, hb1⟩
  have HC := Lib.hid (HI.out w1 A1 c1 hr1)
  have HB1 := Lib.hid hb1
  clear hr1 hb1
  go_wp2_with fail
  refine HC.out.mono ?_
  intro e w3 h3
  obtain ⟨A3, c3, rfl, hr3, hb3⟩ := h3.rd
  have HB3 := Lib.hid (HB1.out.trans (hb3.mono HB1.out.size))
  have HR3 := Lib.hid hr3
  clear hr3 hb3 h3
  go_wp2_with fail
  go_loopw [4] (fun vi wr => ∃ k q : Nat, 1 ≤ k ∧ (k ≤ n ∨ k = 1) ∧ vi = .int .i64 k ∧ wr = w3.drewN q) (fun vi _ => n - (intOf vi).toNat)
  case atStart => exact ⟨1, 0, by omega, .inr rfl, rfl, rfl⟩
  case round =>
    obtain ⟨k, q, hk, hk2, rfl, rfl⟩ := hrel
    by_cases hlt : k < n
    · obtain ⟨b, off, rfl, _, hc, hd⟩ := HR3.out.at (show k - 1 < n by omega)
      obtain ⟨b', off', h', _, hc', hd'⟩ := HR3.out.at hlt
      simp only [Option.some.injEq, Addr.mk.injEq, and_true] at h'
      obtain ⟨rfl, rfl⟩ := h'
      have hz : (0 : Int) ≤ (k : Int) - 1 := by omega
      have hzl : (k : Int) - 1 < (n : Int) := by omega
      have hkl : (k : Int) < (n : Int) := by omega
      have hkn : ((k : Int) - 1).toNat = k - 1 := by omega
      have hwr : IntKind.i64.wrap ((k : Int) - 1) = (k : Int) - 1 := IntWalk.i64_in _ (by omega)
      have hbf : f (p (k - 1)) < f (p k) ∨ f (p (k - 1)) ≤ f (p k) ∧ ((p (k - 1) : Nat) : Int) < (p k : Nat) := by
        rcases HO.out (k - 1) k (Nat.zero_le _) (by omega) hlt with h | ⟨h1, h2⟩
        · unfold keyT at h; simp at h; omega
        · unfold keyT at h1; simp at h1; omega
      dsimp only at hc hd hc' hd'
      generalize f (p (k - 1)) = x1 at *
      generalize f (p k) = y1 at *
      generalize ((p (k - 1) : Nat) : Int) = x2 at *
      generalize ((p k : Nat) : Int) = y2 at *
      have d1 : decide (y1 < x1) = false := by simp; omega
      by_cases he : y1 = x1
      · subst he
        have d2 : (y1 == y1) = true := by simp
        have d3 : decide (y2 ≤ x2) = false := by simp; omega
        clear hbf
        go_wp2_with fail
        go_quiet (fail)
        go_wp2_with fail
        go_roundw
        case rel => exact ⟨k + 1, _, by omega, .inl hlt, by go_num, rfl⟩
        case measure => simp [intOf]; omega
      · have d2 : (y1 == x1) = false := by simpa using he
        clear hbf he
        go_wp2_with fail
        go_quiet (fail)
        go_wp2_with fail
        go_roundw
        case rel => exact ⟨k + 1, _, by omega, .inl hlt, by go_num, rfl⟩
        case measure => simp [intOf]; omega
    · go_wp2_with fail
      go_ret
      exact ⟨rfl, below_drewN HB3.out q⟩
end Go.Proofs.Ytkblfcdofgahhaa
