/-
  slices.CompactFunc at items, and impl.CompactItems: no longer than the list, and of memory of its own.
-/
import Derived.Test.YtjammaglboehcaaPqL5
import Derived.Lib.SliceRun
import Derived.Deep.RegionHeld3
namespace Go.Proofs.Ytjammaglboehcaa
open Go.RowKit Go.Proofs
set_option linter.unusedVariables false

/-- Memory: below block g as it was, and g holds numbers in its first n*2 cells. -/
def RowX (w0 : World) (g n : Nat) (w : World) : Prop :=
  Below g w0 w ∧ (∀ k, w.frozen? ⟨g, k, none⟩ = false) ∧ ∀ k, k < n * 2 → ∃ x, w.cell? ⟨g, k, none⟩ = some (.int .i64 x)
section
variable {w0 w w' : World} {g n : Nat}
theorem RowX.drewN (h : RowX w0 g n w) (q : Nat) : RowX w0 g n (w.drewN q) := ⟨below_drewN h.1 q, h.2⟩
theorem RowX.keep (h : RowX w0 g n w) (hg : g < w.heap.size) (hb : Below w.heap.size w w') : RowX w0 g n w' :=
  ⟨h.1.trans (hb.mono (Nat.le_of_lt hg)), fun k => (hb.frozen (p := ⟨g, k, none⟩) hg).trans (h.2.1 k), fun k hk => by
    obtain ⟨x, hx⟩ := h.2.2 k hk
    exact ⟨x, (hb.cell (p := ⟨g, k, none⟩) hg).trans hx⟩⟩
theorem RowX.set (h : RowX w0 g n w) (k : Nat) (x : Int) : RowX w0 g n (w.setCell ⟨g, k, none⟩ (.int .i64 x)) :=
  ⟨h.1.setCell (p := ⟨g, k, none⟩) (Nat.le_refl _) _, fun j => (World.frozen?_setCell _ _ _ _).trans (h.2.1 j), fun j hj => by
    obtain ⟨y, hy⟩ := h.2.2 j hj
    by_cases e : k = j
    · subst e; exact ⟨x, World.cell?_setCell_same _ _ _ hy⟩
    · exact ⟨y, (World.cell?_setCell_other _ _ _ _ (fun c => e (Addr.mk.inj c).2.1)).trans hy⟩⟩
theorem RowX.sets : ∀ (vs : List Value) (o : Nat) (w : World), RowX w0 g n w → (∀ v ∈ vs, v = .int .i64 0) → RowX w0 g n (w.setCells g o vs)
  | [], _, _, h, _ => h
  | v :: r, o, w, h, hv => by
    obtain rfl := hv v (by simp)
    exact RowX.sets r (o + 1) _ (h.set o 0) (fun u hu => hv u (by simp [hu]))
theorem RowX.item (h : RowX w0 g n w) {i : Nat} (hi : i < n) : ∃ x y, w.cell? ⟨g, i * 2, none⟩ = some (.int .i64 x) ∧ w.cell? ⟨g, i * 2 + 1, none⟩ = some (.int .i64 y) := by
  obtain ⟨x, hx⟩ := h.2.2 (i * 2) (by omega)
  obtain ⟨y, hy⟩ := h.2.2 (i * 2 + 1) (by omega)
  exact ⟨x, y, hx, hy⟩
end

/-- 'clear(s)', s a slice of n > 0 items. -/
theorem run_clear_items {P : Program} (w : World) (t e ty : TypeId) (ht : P.underlying t = some (.slice e)) (hv : ∀ w, (zeroValue e).run P w = .ok (.agg #[.int .i64 0, .int .i64 0]) w) (b o n c : Nat) (hn : 0 < n)
    (hc : ∀ j, j < n * 2 → (w.cell? ⟨b, o + j, none⟩).isSome = true) (hf : ∀ j, j < n * 2 → w.frozen? ⟨b, o + j, none⟩ = false) :
    (Builtin.clear_ #[t] ty #[.slice (some ⟨b, o, none⟩) n c]).run P w = .ok (.tuple #[]) (w.setCells b o (List.replicate (n * 2) (.int .i64 0))) := by
  have hzc : (Builtin.zeroCells (Value.agg #[.int .i64 0, .int .i64 0]).cells n).toList = List.replicate (n * 2) (.int .i64 0) := by
    rw [show (Value.agg #[.int .i64 0, .int .i64 0]).cells = #[.int .i64 0, .int .i64 0] by simp [Value.cells]]
    simp [Builtin.zeroCells]
    apply List.ext_getElem
    · simp
    · intro i h1 h2
      simp
      rcases Nat.mod_two_eq_zero_or_one i with h | h <;> simp [h]
  have hst := run_storeCells_cells (P := P) b o (List.replicate (n * 2) (.int .i64 0)) 0 w (by simpa using hc) (by simpa using hf) (by intro v hv'; rw [List.eq_of_mem_replicate hv']; rfl)
  simp only [Nat.add_zero] at hst
  obtain ⟨m, rfl⟩ : ∃ m, n = m + 1 := ⟨n - 1, by omega⟩
  simp [Builtin.clear_, run_underlying ht, hv, hzc, hst]

theorem compactEq_en : ∀ args w, (callFunc 44 args).run Try.prog w = .ok (.enter 44 args) w := enters_of Try.func44 (by kernel_rfl) rfl
set_option maxHeartbeats 1000000 in
theorem compactEq (x1 x2 y1 y2 : Int) (w : World) : Calls Try.prog 44 #[.agg #[.int .i64 x1, .int .i64 x2], .agg #[.int .i64 y1, .int .i64 y2]] w fun e w' => ∃ b, e = .returned (.bool b) ∧ Below w.heap.size w w' := by
  go_enter Try.func44, Try.ntmps44
  go_wp2_with fail
  go_ret
  exact ⟨_, rfl, ((Below.refl w.heap.size w).alloc (Nat.le_refl _) _).alloc (by simp) _⟩

theorem zeroItem : ∀ w, (zeroValue 47).run Try.prog w = .ok (.agg #[.int .i64 0, .int .i64 0]) w := by intro w; kernel_rfl

set_option maxRecDepth 100000 in
set_option maxHeartbeats 4000000 in
theorem compactFunc (g n cap : Nat) (w0 w : World) (hn : n ≤ 2305843009213693951) (hnc : n ≤ cap) (hg : g < w0.heap.size) (h0 : RowX w0 g n w) :
    Calls Try.prog 43 #[.slice (some ⟨g, 0, none⟩) n cap, .func (.func 44) #[] #[]] w fun e w' => ∃ m, m ≤ n ∧ e = .returned (.slice (some ⟨g, 0, none⟩) m cap) ∧ Below g w0 w' := by
  have H0 := Lib.hid h0
  have HG := Lib.hid (fun w' (h : RowX w0 g n w') => Nat.lt_of_lt_of_le hg h.1.size)
  have eg := compactEq_en
  clear h0 hg
  by_cases h2 : n < 2
  · have h2z : (n : Int) < 2 := by omega
    go_enter Try.func43, Try.ntmps43
    go_wp2_with fail
    go_ret
    exact ⟨n, Nat.le_refl _, rfl, H0.out.1⟩
  have h2z : ¬ (n : Int) < 2 := by omega
  go_enter Try.func43, Try.ntmps43
  go_wp2_with fail
  go_loopg [5] n (fun q vi wr => ∃ k : Nat, 1 ≤ k ∧ k ≤ n ∧ n - k ≤ q ∧ vi = .int .i64 k ∧ Hid (RowX w0 g n wr))
  case atStart => exact ⟨1, Nat.le_refl _, by omega, by omega, rfl, H0.out⟩
  case round =>
    obtain ⟨k, hk1, hk, hq, rfl, HI⟩ := hrel
    by_cases hlt : k < n
    · obtain ⟨j, rfl⟩ : ∃ j, k = j + 1 := ⟨k - 1, by omega⟩
      obtain ⟨x1, x2, hx1, hx2⟩ := HI.out.item hlt
      obtain ⟨y1, y2, hy1, hy2⟩ := HI.out.item (show j < n by omega)
      have hwr : IntKind.i64.wrap (((j + 1 : Nat) : Int) - 1) = ((j + 1 : Nat) : Int) - 1 := IntWalk.i64_in _ (by omega)
      have hto : (((j + 1 : Nat) : Int) - 1).toNat = j := by omega
      have hb1 : ((j + 1 : Nat) : Int) < (n : Int) := by omega
      have hb2 : 0 ≤ ((j + 1 : Nat) : Int) - 1 := by omega
      have hb3 : ((j + 1 : Nat) : Int) - 1 < (n : Int) := by omega
      have hb4 : (1 : Int) ≤ ((j + 1 : Nat) : Int) := by omega
      generalize hj1 : j + 1 = j1 at *
      have HJ := Lib.hid hj1; clear hj1
      have HC := Lib.hid (compactEq x1 x2 y1 y2 (wr.drewN 1))
      go_wp2_with fail
      go_still_tail 10, (by kernel_rfl)
      change wpList _ _ _ _ _ (wr.drewN 1)
      go_wp2_with fail
      refine HC.out.mono ?_
      rintro e w2 ⟨b, rfl, hb⟩
      have HI2 := Lib.hid ((HI.out.drewN 1).keep (HG.out wr HI.out) hb)
      clear hb HC
      cases b
      · go_wp2_with fail
        go_roundg (n - (j1 + 1))
        case measure => omega
        case rel => exact ⟨j1 + 1, by omega, by omega, Nat.le_refl _, by go_num, HI2.out⟩
      · go_wp2_with fail
        clear HI hx1 hx2 hy1 hy2 hwr hto hb1 hb2 hb3 hb4
        have hj1n : j1 < n := hlt
        go_loopg [5, 7] n (fun q s5 s7 wr => ∃ kk k2 : Nat, kk < j1 + k2 ∧ 1 ≤ k2 ∧ j1 + k2 ≤ n ∧ n - (j1 + k2) ≤ q ∧ s5 = .int .i64 kk ∧ s7 = .int .i64 k2 ∧ Hid (RowX w0 g n wr))
        case atStart => exact ⟨j1, 1, by omega, Nat.le_refl _, by omega, by omega, rfl, rfl, HI2.out⟩
        case round =>
          clear HI2
          obtain ⟨kk, k2, hkk, h21, hle, hq2, rfl, rfl, HI⟩ := hrel
          by_cases hl2 : j1 + k2 < n
          · obtain ⟨l, rfl⟩ : ∃ l, k2 = l + 1 := ⟨k2 - 1, by omega⟩
            obtain ⟨x1, x2, hx1, hx2⟩ := HI.out.item hl2
            obtain ⟨y1, y2, hy1, hy2⟩ := HI.out.item (show j1 + l < n by omega)
            rw [Nat.add_mul] at hx1 hx2 hy1 hy2
            have hwr : IntKind.i64.wrap (((l + 1 : Nat) : Int) - 1) = ((l + 1 : Nat) : Int) - 1 := IntWalk.i64_in _ (by omega)
            have hto : (((l + 1 : Nat) : Int) - 1).toNat = l := by omega
            have hb1 : ((l + 1 : Nat) : Int) < ((n - j1 : Nat) : Int) := by omega
            have hb2 : 0 ≤ ((l + 1 : Nat) : Int) - 1 := by omega
            have hb3 : ((l + 1 : Nat) : Int) - 1 < ((n - j1 : Nat) : Int) := by omega
            have hb4 : (1 : Int) ≤ ((l + 1 : Nat) : Int) := by omega
            have hkn : (kk : Int) < (n : Int) := by omega
            generalize hl1 : l + 1 = l1 at *
            have HJ2 := Lib.hid hl1; clear hl1
            have HC := Lib.hid (compactEq x1 x2 y1 y2 (wr.drewN 1))
            go_wp2_with fail
            go_still_tail 10, (by kernel_rfl)
            change wpList _ _ _ _ _ (wr.drewN 1)
            go_wp2_with fail
            refine HC.out.mono ?_
            rintro e w3 ⟨b, rfl, hb⟩
            have HI3 := Lib.hid ((HI.out.drewN 1).keep (HG.out wr HI.out) hb)
            clear hb HC hx1 hx2 hy1 hy2
            cases b
            · obtain ⟨x1, x2, hx1, hx2⟩ := HI3.out.item hl2
              obtain ⟨y1, y2, hy1, hy2⟩ := HI3.out.item (show kk < n by omega)
              rw [Nat.add_mul] at hx1 hx2
              have f1 := HI3.out.2.1 (kk * 2)
              have f2 := HI3.out.2.1 (kk * 2 + 1)
              obtain ⟨u, hu⟩ := cell_stays (p := ⟨g, kk * 2, none⟩) (x := .int .i64 x1) hy2
              go_wp2_with fail
              go_roundg (n - (j1 + (l1 + 1)))
              case measure => omega
              case rel => exact ⟨kk + 1, l1 + 1, by omega, by omega, by omega, Nat.le_refl _, by go_num, by go_num, (HI3.out.set _ _).set _ _⟩
            · go_wp2_with fail
              go_roundg (n - (j1 + (l1 + 1)))
              case measure => omega
              case rel => exact ⟨kk, l1 + 1, by omega, by omega, by omega, Nat.le_refl _, rfl, by go_num, HI3.out⟩
          · have hb1 : ¬ ((k2 : Int) < ((n - j1 : Nat) : Int)) := by omega
            have hcl : ∀ ty, (Builtin.clear_ #[23] ty #[.slice (some ⟨g, kk * 2, none⟩) (n - kk) (cap - kk)]).run Try.prog wr = .ok (.tuple #[]) (wr.setCells g (kk * 2) (List.replicate ((n - kk) * 2) (.int .i64 0))) :=
              fun ty => run_clear_items wr _ _ ty Try.underlying23 zeroItem g (kk * 2) _ _ (by omega) (fun j hj => by obtain ⟨x, hx⟩ := HI.out.2.2 (kk * 2 + j) (by omega); rw [hx]; rfl) (fun j hj => HI.out.2.1 _)
            have HB := Lib.hid (RowX.sets (List.replicate ((n - kk) * 2) (.int .i64 0)) (kk * 2) wr HI.out (fun v hv => List.eq_of_mem_replicate hv))
            have hkn : (kk : Int) ≤ (n : Int) := by omega
            have hkc : (kk : Int) ≤ (cap : Int) := by omega
            have hkk2 : kk ≤ n := by omega
            go_wp2_with fail
            go_ret
            exact ⟨kk, hkk2, rfl, HB.out.1⟩
    · have hlz : ¬ ((k : Int) < (n : Int)) := by omega
      go_wp2_with fail
      go_ret
      exact ⟨n, Nat.le_refl _, rfl, HI.out.1⟩
-- MARK: what follows is printed by itmc.py
def OutLeI (w : World) (n : Nat) (e : Ending) (w' : World) : Prop := ∃ A m c, e = .returned (.slice A m c) ∧ m ≤ n ∧ Below w.heap.size w w'
set_option maxHeartbeats 1000000 in
theorem compactFunc_none (w : World) : Calls Try.prog 43 #[.slice none 0 0, .func (.func 44) #[] #[]] w fun e w' => e = .returned (.slice none 0 0) ∧ w' = w := by
  go_enter Try.func43, Try.ntmps43
  go_wp2_with fail
  go_ret
  exact ⟨rfl, rfl⟩

set_option maxHeartbeats 1000000 in
theorem implCompactItems (A : Option Addr) (n c B : Nat) (f : Nat → Int × Int) (w : World) (hn : n * 16 ≤ 140737488351232) (hrd : RdI w B A n f) :
    Calls Try.prog 19 #[.slice A n c] w (OutLeI w n) := by
  have HNu := Lib.hid (items A n c B f w hn hrd)
  clear hrd
  go_enter Try.func19, Try.ntmps19
  go_wp2_with fail
  refine HNu.out.mono ?_
  rintro e w1 ⟨v1, rfl, ⟨G, hG, hF⟩, hb1⟩
  have H1 := Lib.hid hb1
  rcases hG with ⟨rfl, h0⟩ | ⟨g, cap, rfl, hg, hnc, hr⟩
  · have HC := Lib.hid (compactFunc_none w1)
    clear h0 hF hb1 HNu
    go_wp2_with fail
    refine HC.out.mono ?_
    rintro e w2 ⟨rfl, rfl⟩
    go_wp2_with fail
    go_ret
    exact ⟨none, 0, 0, rfl, Nat.zero_le _, H1.out⟩
  · have HC := Lib.hid (compactFunc g n cap w1 w1 (by omega) hnc hr.lt ⟨Below.refl _ _, fun k => hr.frozen k, fun k hk => by
      rw [hr.cell (show k < cap * 2 by omega), hF k hk]
      unfold cellI
      split
      · exact ⟨_, rfl⟩
      · exact ⟨_, rfl⟩⟩)
    have HGg := Lib.hid hg
    clear hF hb1 HNu hg hnc hr
    go_wp2_with fail
    refine HC.out.mono ?_
    rintro e w2 ⟨m, hm, rfl, hb⟩
    have HB := Lib.hid (H1.out.trans (hb.mono HGg.out))
    clear hb
    go_wp2_with fail
    go_ret
    exact ⟨_, m, cap, rfl, hm, HB.out⟩

set_option maxRecDepth 100000 in
set_option maxHeartbeats 4000000 in
theorem fnItemSortsKeepArgumentw (w : World) (A : Option Addr) (n c : Nat) (f : Nat → Int × Int) (hf64 : ∀ i, I64 (f i).1 ∧ I64 (f i).2) (hl : n ≤ c) (hre : c * 16 ≤ 140737488351232) (hrd : RdI w w.heap.size A n f) :
    Calls Try.prog 4 #[.slice A n c] w fun e w' => e = .returned (.bool true) ∧ Below w.heap.size w w' := by
  have hn : n * 16 ≤ 140737488351232 := by omega
  have hnn : n ≤ 4611686018427387903 := by omega
  have hee : ((n : Int) == (n : Int)) = true := by simp
  have HT := Lib.hid (fun w' (hb : Below w.heap.size w w') => toItems A n c w.heap.size f w' hn hb.size (hrd.keep hb (Nat.le_refl _)))
  have HSortItems : Hid (∀ w' B' A1 c1, RdI w' B' A1 n f → Calls Try.prog 11 #[.slice A1 n c1] w' fun e w2 => ∃ A2 c2, e = .returned (.slice A2 n c2) ∧ Below w'.heap.size w' w2) := Lib.hid (fun w' B' A1 c1 hr => (implSortItems A1 n c1 B' f w' hn hr).mono fun e w2 h => by
    obtain ⟨A2, c2, g, h0, h1, h2, _⟩ := h
    exact ⟨A2, c2, h0, h2⟩)
  have HSortWhole : Hid (∀ w' B' A1 c1, RdI w' B' A1 n f → Calls Try.prog 17 #[.slice A1 n c1] w' fun e w2 => ∃ A2 c2, e = .returned (.slice A2 n c2) ∧ Below w'.heap.size w' w2) := Lib.hid (fun w' B' A1 c1 hr => (implSortWhole A1 n c1 B' f w' hn hr).mono fun e w2 h => by
    obtain ⟨A2, c2, g, h0, h1, h2, _⟩ := h
    exact ⟨A2, c2, h0, h2⟩)
  have HStableItems : Hid (∀ w' B' A1 c1, RdI w' B' A1 n f → Calls Try.prog 14 #[.slice A1 n c1] w' fun e w2 => ∃ A2 c2, e = .returned (.slice A2 n c2) ∧ Below w'.heap.size w' w2) := Lib.hid (fun w' B' A1 c1 hr => (implStableItems A1 n c1 B' f w' hn hr).mono fun e w2 h => by
    obtain ⟨A2, c2, h0, h1, h2⟩ := h.rd
    exact ⟨A2, c2, h0, h2⟩)
  have HSortSortItems : Hid (∀ w' B' A1 c1, RdI w' B' A1 n f → Calls Try.prog 13 #[.slice A1 n c1] w' fun e w2 => ∃ A2 c2, e = .returned (.slice A2 n c2) ∧ Below w'.heap.size w' w2) := Lib.hid (fun w' B' A1 c1 hr => (implSortSortItems A1 n c1 B' f w' hn hr).mono fun e w2 h => by
    obtain ⟨A2, c2, h0, h1, h2⟩ := h.rd
    exact ⟨A2, c2, h0, h2⟩)
  have HSortSortWhole : Hid (∀ w' B' A1 c1, RdI w' B' A1 n f → Calls Try.prog 18 #[.slice A1 n c1] w' fun e w2 => ∃ A2 c2, e = .returned (.slice A2 n c2) ∧ Below w'.heap.size w' w2) := Lib.hid (fun w' B' A1 c1 hr => (implSortSortWhole A1 n c1 B' f w' hn hr).mono fun e w2 h => by
    obtain ⟨A2, c2, h0, h1, h2⟩ := h.rd
    exact ⟨A2, c2, h0, h2⟩)
  have HSortStableItems : Hid (∀ w' B' A1 c1, RdI w' B' A1 n f → Calls Try.prog 15 #[.slice A1 n c1] w' fun e w2 => ∃ A2 c2, e = .returned (.slice A2 n c2) ∧ Below w'.heap.size w' w2) := Lib.hid (fun w' B' A1 c1 hr => (implSortStableItems A1 n c1 B' f w' hn hr).mono fun e w2 h => by
    obtain ⟨A2, c2, h0, h1, h2⟩ := h.rd
    exact ⟨A2, c2, h0, h2⟩)
  have HSliceStableItems : Hid (∀ w' B' A1 c1, RdI w' B' A1 n f → Calls Try.prog 16 #[.slice A1 n c1] w' fun e w2 => ∃ A2 c2, e = .returned (.slice A2 n c2) ∧ Below w'.heap.size w' w2) := Lib.hid (fun w' B' A1 c1 hr => (implSliceStableItems A1 n c1 B' f w' hn hr).mono fun e w2 h => by
    obtain ⟨A2, c2, h0, h1, h2⟩ := h.rd
    exact ⟨A2, c2, h0, h2⟩)
  have HCompactItems := Lib.hid (fun w' B' A1 c1 (hr : RdI w' B' A1 n f) => implCompactItems A1 n c1 B' f w' hn hr)
  clear hrd hf64 hre hl
  go_enter Try.func4, Try.ntmps4
  go_wp2_with fail
  refine (HT.out _ (Below.refl _ _)).mono ?_
  rintro e w0 ⟨A1, c1, rfl, hr1, hb1⟩
  have HI := Lib.hid (And.intro hr1 (Nat.le_refl w0.heap.size))
  have HB := Lib.hid hb1
  clear hr1 hb1
  have HC := Lib.hid (HSortItems.out w0 _ A1 c1 HI.out.1)
  go_wp2_with fail
  refine HC.out.mono ?_
  rintro e w1 ⟨A10, c10, rfl, hb⟩
  have HI := Lib.hid (And.intro (HI.out.1.keep hb HI.out.2) (Nat.le_trans HI.out.2 hb.size))
  have HB := Lib.hid (HB.out.trans (hb.mono HB.out.size))
  clear hb HC
  have HC := Lib.hid (HSortWhole.out w1 _ A1 c1 HI.out.1)
  go_wp2_with fail
  refine HC.out.mono ?_
  rintro e w2 ⟨A11, c11, rfl, hb⟩
  have HI := Lib.hid (And.intro (HI.out.1.keep hb HI.out.2) (Nat.le_trans HI.out.2 hb.size))
  have HB := Lib.hid (HB.out.trans (hb.mono HB.out.size))
  clear hb HC
  have HC := Lib.hid (HStableItems.out w2 _ A1 c1 HI.out.1)
  go_wp2_with fail
  refine HC.out.mono ?_
  rintro e w3 ⟨A12, c12, rfl, hb⟩
  have HI := Lib.hid (And.intro (HI.out.1.keep hb HI.out.2) (Nat.le_trans HI.out.2 hb.size))
  have HB := Lib.hid (HB.out.trans (hb.mono HB.out.size))
  clear hb HC
  have HC := Lib.hid (HSortSortItems.out w3 _ A1 c1 HI.out.1)
  go_wp2_with fail
  refine HC.out.mono ?_
  rintro e w4 ⟨A13, c13, rfl, hb⟩
  have HI := Lib.hid (And.intro (HI.out.1.keep hb HI.out.2) (Nat.le_trans HI.out.2 hb.size))
  have HB := Lib.hid (HB.out.trans (hb.mono HB.out.size))
  clear hb HC
  have HC := Lib.hid (HSortSortWhole.out w4 _ A1 c1 HI.out.1)
  go_wp2_with fail
  refine HC.out.mono ?_
  rintro e w5 ⟨A14, c14, rfl, hb⟩
  have HI := Lib.hid (And.intro (HI.out.1.keep hb HI.out.2) (Nat.le_trans HI.out.2 hb.size))
  have HB := Lib.hid (HB.out.trans (hb.mono HB.out.size))
  clear hb HC
  have HC := Lib.hid (HSortStableItems.out w5 _ A1 c1 HI.out.1)
  go_wp2_with fail
  refine HC.out.mono ?_
  rintro e w6 ⟨A15, c15, rfl, hb⟩
  have HI := Lib.hid (And.intro (HI.out.1.keep hb HI.out.2) (Nat.le_trans HI.out.2 hb.size))
  have HB := Lib.hid (HB.out.trans (hb.mono HB.out.size))
  clear hb HC
  have HC := Lib.hid (HSliceStableItems.out w6 _ A1 c1 HI.out.1)
  go_wp2_with fail
  refine HC.out.mono ?_
  rintro e w7 ⟨A16, c16, rfl, hb⟩
  have HI := Lib.hid (And.intro (HI.out.1.keep hb HI.out.2) (Nat.le_trans HI.out.2 hb.size))
  have HB := Lib.hid (HB.out.trans (hb.mono HB.out.size))
  clear hb HC
  have HC := Lib.hid (HCompactItems.out w7 _ A1 c1 HI.out.1)
  go_wp2_with fail
  refine HC.out.mono ?_
  rintro e w8 ⟨A8, m8, c8, rfl, hm8, hb⟩
  have HI := Lib.hid (And.intro (HI.out.1.keep hb HI.out.2) (Nat.le_trans HI.out.2 hb.size))
  have HB := Lib.hid (HB.out.trans (hb.mono HB.out.size))
  have hm9 : (m8 : Int) ≤ (n : Int) := by omega
  clear hb HC
  have HC := Lib.hid (HT.out w8 HB.out)
  go_wp2_with fail
  refine HC.out.mono ?_
  rintro e w9 ⟨A9, c9, rfl, hr9, hb⟩
  have HE := Lib.hid (sameItems n n c9 c1 A9 A1 f f w9 _ _ hnn hnn hr9 (HI.out.1.keep hb HI.out.2))
  have HB := Lib.hid (HB.out.trans (hb.mono HB.out.size))
  clear hb HC hr9
  go_wp2_with fail
  refine HE.out.mono ?_
  rintro e w10 ⟨b5, rfl, hb5, q5, rfl⟩
  obtain rfl : b5 = true := hb5.2 ⟨rfl, fun _ _ => rfl⟩
  clear hb5
  go_wp2_with fail
  go_ret
  exact ⟨rfl, below_drewN HB.out q5⟩
end Go.Proofs.Ytjammaglboehcaa
