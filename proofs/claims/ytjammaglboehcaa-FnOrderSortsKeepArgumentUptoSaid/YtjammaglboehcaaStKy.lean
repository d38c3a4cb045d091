/-
  The methods of keyed over memory, impl.items, and impl.SortStableItems.
-/
import Derived.Test.YtjammaglboehcaaStO
import Derived.Test.YtjammaglboehcaaStR
import Derived.Test.YtjammaglboehcaaStC
import Derived.Test.YtjammaglboehcaaIsI
import Derived.Test.YtjammaglboehcaaItmS
import Derived.BigRegion
namespace Go.Proofs.Ytjammaglboehcaa
open Go.RowKit Go.Proofs
set_option linter.unusedVariables false

/-- Four stores: two items change places. -/
def swapW (w : World) (g i j : Nat) (x y : Int × Int) : World :=
  (((w.setCell ⟨g, i * 2, none⟩ (.int .i64 y.1)).setCell ⟨g, i * 2 + 1, none⟩ (.int .i64 y.2)).setCell ⟨g, j * 2, none⟩ (.int .i64 x.1)).setCell ⟨g, j * 2 + 1, none⟩ (.int .i64 x.2)

theorem cell_stays {w : World} {p q : Addr} {v x : Value} (h : w.cell? q = some v) : ∃ u, (w.setCell p x).cell? q = some u := by
  by_cases e : p = q
  · subst e; exact ⟨x, World.cell?_setCell_same _ _ _ h⟩
  · exact ⟨v, by rw [World.cell?_setCell_other _ _ _ _ (fun h => e h)]; exact h⟩

set_option maxHeartbeats 4000000 in
theorem itemSwapK (g n cap i j : Nat) (x1 x2 y1 y2 : Int) (w : World) (hn : n ≤ 2305843009213693951) (hi : i < n) (hj : j < n)
    (hx1 : w.cell? ⟨g, i * 2, none⟩ = some (.int .i64 x1)) (hx2 : w.cell? ⟨g, i * 2 + 1, none⟩ = some (.int .i64 x2)) (hy1 : w.cell? ⟨g, j * 2, none⟩ = some (.int .i64 y1)) (hy2 : w.cell? ⟨g, j * 2 + 1, none⟩ = some (.int .i64 y2))
    (fr : ∀ k, w.frozen? ⟨g, k, none⟩ = false) :
    Calls Try.prog 167 #[.slice (some ⟨g, 0, none⟩) n cap, .int .i64 i, .int .i64 j] w fun e w' => e = .returned (.tuple #[]) ∧ ∃ q, w' = (swapW w g i j (x1, x2) (y1, y2)).drewN q := by
  have hil : (i : Int) < (n : Int) := by omega
  have hjl : (j : Int) < (n : Int) := by omega
  have f1 := fr (i * 2)
  have f2 := fr (i * 2 + 1)
  have f3 := fr (j * 2)
  have f4 := fr (j * 2 + 1)
  obtain ⟨u1, s1⟩ := cell_stays (p := ⟨g, i * 2, none⟩) (x := .int .i64 y1) hx2
  obtain ⟨u2', s2'⟩ := cell_stays (p := ⟨g, i * 2, none⟩) (x := .int .i64 y1) hy1
  obtain ⟨u2, s2⟩ := cell_stays (p := ⟨g, i * 2 + 1, none⟩) (x := .int .i64 y2) s2'
  obtain ⟨u3', s3'⟩ := cell_stays (p := ⟨g, i * 2, none⟩) (x := .int .i64 y1) hy2
  obtain ⟨u3'', s3''⟩ := cell_stays (p := ⟨g, i * 2 + 1, none⟩) (x := .int .i64 y2) s3'
  obtain ⟨u3, s3⟩ := cell_stays (p := ⟨g, j * 2, none⟩) (x := .int .i64 x1) s3''
  clear s2' s3' s3'' fr
  go_enter Try.func167, Try.ntmps167
  go_wp2_with fail
  go_region
  go_wp2_with fail
  go_end0
  exact ⟨rfl, 1, rfl⟩
set_option maxHeartbeats 4000000 in
theorem itemSwapW (g n cap i j : Nat) (x1 x2 y1 y2 : Int) (w : World) (hn : n ≤ 2305843009213693951) (hi : i < n) (hj : j < n)
    (hx1 : w.cell? ⟨g, i * 2, none⟩ = some (.int .i64 x1)) (hx2 : w.cell? ⟨g, i * 2 + 1, none⟩ = some (.int .i64 x2)) (hy1 : w.cell? ⟨g, j * 2, none⟩ = some (.int .i64 y1)) (hy2 : w.cell? ⟨g, j * 2 + 1, none⟩ = some (.int .i64 y2))
    (fr : ∀ k, w.frozen? ⟨g, k, none⟩ = false) :
    Calls Try.prog 170 #[.slice (some ⟨g, 0, none⟩) n cap, .int .i64 i, .int .i64 j] w fun e w' => e = .returned (.tuple #[]) ∧ ∃ q, w' = (swapW w g i j (x1, x2) (y1, y2)).drewN q := by
  have hil : (i : Int) < (n : Int) := by omega
  have hjl : (j : Int) < (n : Int) := by omega
  have f1 := fr (i * 2)
  have f2 := fr (i * 2 + 1)
  have f3 := fr (j * 2)
  have f4 := fr (j * 2 + 1)
  obtain ⟨u1, s1⟩ := cell_stays (p := ⟨g, i * 2, none⟩) (x := .int .i64 y1) hx2
  obtain ⟨u2', s2'⟩ := cell_stays (p := ⟨g, i * 2, none⟩) (x := .int .i64 y1) hy1
  obtain ⟨u2, s2⟩ := cell_stays (p := ⟨g, i * 2 + 1, none⟩) (x := .int .i64 y2) s2'
  obtain ⟨u3', s3'⟩ := cell_stays (p := ⟨g, i * 2, none⟩) (x := .int .i64 y1) hy2
  obtain ⟨u3'', s3''⟩ := cell_stays (p := ⟨g, i * 2 + 1, none⟩) (x := .int .i64 y2) s3'
  obtain ⟨u3, s3⟩ := cell_stays (p := ⟨g, j * 2, none⟩) (x := .int .i64 x1) s3''
  clear s2' s3' s3'' fr
  go_enter Try.func170, Try.ntmps170
  go_wp2_with fail
  go_region
  go_wp2_with fail
  go_end0
  exact ⟨rfl, 1, rfl⟩

/-- Memory: below the row as it was, and the row holds the items f in the order p. -/
def RowPI (w0 : World) (g : Nat) (t : TypeId) (n len : Nat) (f : Nat → Int × Int) (G : Nat → Value) (p : Nat → Nat) (w : World) : Prop :=
  Below g w0 w ∧ g < w0.heap.size ∧ n * 2 ≤ len ∧ w.rowIs g t len (fun k => if k < n * 2 then cellI (fun i => f (p i)) k else G k)

section
variable {w0 w w' : World} {g : Nat} {t : TypeId} {n len : Nat} {f : Nat → Int × Int} {G : Nat → Value} {p : Nat → Nat}
theorem RowPI.keep (h : RowPI w0 g t n len f G p w) (hb : Below w.heap.size w w') : RowPI w0 g t n len f G p w' :=
  ⟨h.1.trans (hb.mono (Nat.le_trans (Nat.le_of_lt h.2.1) h.1.size)), h.2.1, h.2.2.1, rowIs_below h.2.2.2 hb (Nat.lt_of_lt_of_le h.2.1 h.1.size)⟩
theorem RowPI.drewN (h : RowPI w0 g t n len f G p w) (q : Nat) : RowPI w0 g t n len f G p (w.drewN q) := ⟨below_drewN h.1 q, h.2.1, h.2.2.1, h.2.2.2⟩
theorem RowPI.frozen (h : RowPI w0 g t n len f G p w) (i : Nat) : w.frozen? ⟨g, i, none⟩ = false := h.2.2.2.frozen i
theorem RowPI.lt (h : RowPI w0 g t n len f G p w) : g < w.heap.size := Nat.lt_of_lt_of_le h.2.1 h.1.size
theorem RowPI.cell1 (h : RowPI w0 g t n len f G p w) {i : Nat} (hi : i < n) : w.cell? ⟨g, i * 2, none⟩ = some (.int .i64 (f (p i)).1) := by
  have := h.2.2.2.cell (show i * 2 < len by have := h.2.2.1; omega)
  rw [if_pos (by omega), cellI_even] at this; exact this
theorem RowPI.cell2 (h : RowPI w0 g t n len f G p w) {i : Nat} (hi : i < n) : w.cell? ⟨g, i * 2 + 1, none⟩ = some (.int .i64 (f (p i)).2) := by
  have := h.2.2.2.cell (show i * 2 + 1 < len by have := h.2.2.1; omega)
  rw [if_pos (by omega), cellI_odd] at this; exact this
theorem RowPI.rd (h : RowPI w0 g t n len f G p w) : RdI w w.heap.size (some ⟨g, 0, none⟩) n (fun k => f (p k)) := fun _ => ⟨g, 0, rfl, h.lt, fun i hi => by
  rw [Nat.zero_add]; exact ⟨h.cell1 hi, h.cell2 hi⟩⟩
theorem RowPI.swap (h : RowPI w0 g t n len f G p w) {i j : Nat} (hi : i < n) (hj : j < n) : RowPI w0 g t n len f G (swapF p i j) (swapW w g i j (f (p i)) (f (p j))) := by
  refine ⟨(((h.1.setCell (p := ⟨g, i * 2, none⟩) (Nat.le_refl _) _).setCell (p := ⟨g, i * 2 + 1, none⟩) (Nat.le_refl _) _).setCell (p := ⟨g, j * 2, none⟩) (Nat.le_refl _) _).setCell (p := ⟨g, j * 2 + 1, none⟩) (Nat.le_refl _) _, h.2.1, h.2.2.1,
    ((((h.2.2.2.set (i * 2) _).set (i * 2 + 1) _).set (j * 2) _).set (j * 2 + 1) _).congr fun k hk => ?_⟩
  unfold swapF
  by_cases hn : k < n * 2
  · rw [if_pos hn, if_pos hn]
    obtain ⟨a, rfl | rfl⟩ : ∃ a, k = a * 2 ∨ k = a * 2 + 1 := ⟨k / 2, by omega⟩
    · rw [cellI_even, cellI_even, if_neg (show ¬ a * 2 = j * 2 + 1 by omega), if_neg (show ¬ a * 2 = i * 2 + 1 by omega)]
      by_cases c1 : a = j
      · subst c1
        rw [if_pos rfl]
        by_cases c2 : a = i
        · subst c2; rw [if_pos rfl]
        · rw [if_neg c2, if_pos rfl]
      · rw [if_neg (show ¬ a * 2 = j * 2 by omega)]
        by_cases c2 : a = i
        · subst c2; rw [if_pos rfl, if_pos rfl]
        · rw [if_neg (show ¬ a * 2 = i * 2 by omega), if_neg c2, if_neg c1]
    · rw [cellI_odd, cellI_odd, if_neg (show ¬ a * 2 + 1 = j * 2 by omega), if_neg (show ¬ a * 2 + 1 = i * 2 by omega)]
      by_cases c1 : a = j
      · subst c1
        rw [if_pos rfl]
        by_cases c2 : a = i
        · subst c2; rw [if_pos rfl]
        · rw [if_neg c2, if_pos rfl]
      · rw [if_neg (show ¬ a * 2 + 1 = j * 2 + 1 by omega)]
        by_cases c2 : a = i
        · subst c2; rw [if_pos rfl, if_pos rfl]
        · rw [if_neg (show ¬ a * 2 + 1 = i * 2 + 1 by omega), if_neg c2, if_neg c1]
  · rw [if_neg hn, if_neg hn, if_neg (by omega), if_neg (by omega), if_neg (by omega), if_neg (by omega)]
end

/-- A list of items of the call's own: those of f in the order p. -/
def OutPI (w : World) (n : Nat) (f : Nat → Int × Int) (p : Nat → Nat) (e : Ending) (w' : World) : Prop :=
  ∃ v, e = .returned v ∧ (∃ G : Nat → Value, OwnRow w' w.heap.size 47 2 v n G ∧ ∀ k, k < n * 2 → G k = cellI (fun i => f (p i)) k) ∧ Below w.heap.size w w'

theorem OwnRow.rdI {w : World} {B : Nat} {t : TypeId} {v : Value} {n : Nat} {f : Nat → Int × Int} {F : Nat → Value} (h : OwnRow w B t 2 v n F) (hF : ∀ i, i < n * 2 → F i = cellI f i) :
    ∃ A c, v = .slice A n c ∧ RdI w w.heap.size A n f := by
  rcases h with ⟨rfl, rfl⟩ | ⟨g, cap, rfl, _, hnc, hr⟩
  · exact ⟨none, 0, rfl, RdI.none⟩
  · exact ⟨_, cap, rfl, rdI_of_row hr (by omega) (fun i hi => ⟨by rw [hF _ (by omega), cellI_even], by rw [hF _ (by omega), cellI_odd]⟩)⟩

set_option maxHeartbeats 1000000 in
theorem items (A : Option Addr) (n c B : Nat) (f : Nat → Int × Int) (w : World) (hn : n * 16 ≤ 140737488351232) (hrd : RdI w B A n f) :
    Calls Try.prog 34 #[.slice A n c] w fun e w' => ∃ v, e = .returned v ∧ Copied w 47 2 (cellI f) v n w' := by
  obtain ⟨i, hi, hz, hs, hby⟩ := info_parts infoItem
  have HR := Lib.hid hrd; clear hrd
  go_enter Try.func34, Try.ntmps34
  go_wp2_with (at_builtin; refine wpList_copy_nil rfl _ _ 23 rfl 47 i _ 2 16 Try.underlying23 hi hz hs hby rfl (by omega) A n c (cellI f) rfl rfl (fun h => by
      obtain ⟨b, off, hA, _, hc⟩ := HR.out h
      refine ⟨b, off, hA, fun j hj => ?_⟩
      obtain ⟨a, rfl | rfl⟩ : ∃ a, j = a * 2 ∨ j = a * 2 + 1 := ⟨j / 2, by omega⟩
      · rw [cellI_even]; exact (hc a (by omega)).1
      · rw [cellI_odd, ← Nat.add_assoc]; exact (hc a (by omega)).2) (fun j hj => by unfold cellI; split <;> rfl) (by simp [maxLen]; omega) (by omega) ?_; intro v1 w1 hcp; have HCp := Lib.hid hcp; clear hcp)
  go_ret
  exact ⟨v1, rfl, HCp.out⟩

theorem keyed_swap (A : Option Addr) (n c : Nat) (w : World) : (method 266 50 (.slice A n c) "Swap").run Try.prog w = .ok (167, .slice A n c) w := by kernel_rfl
theorem keyed_es : ∀ args w, (callFunc 167 args).run Try.prog w = .ok (.enter 167 args) w := enters_of Try.func167 (by kernel_rfl) rfl

/-- The order of items by their keys. -/
def keyT (f : Nat → Int × Int) (i j : Nat) : Bool := decide ((f i).1 < (f j).1)

/-- keyed over a row of its own, as a value with Less and Swap. -/
theorem keyedS (g n cap len : Nat) (f : Nat → Int × Int) (G : Nat → Value) (w0 : World) (hn : n ≤ 1152921504606846975) :
    IfaceS (tabM (keyT f)) (fun _ => True) (fun p w => RowPI w0 g 47 n len f G p w) 50 (.slice (some ⟨g, 0, none⟩) n cap) 166 167 n where
  guard := tabM_guard _
  hn := hn
  mL := keyed_less _ _ _
  mS := keyed_swap _ _ _
  eL := keyed_el
  eS := keyed_es
  less := fun p w i j hi hj hR _ => by
    refine (keyedLess (some ⟨g, 0, none⟩) n cap i j _ (fun k => f (p k)) w (by omega) hi hj hR.rd).mono fun e w' h => ⟨h.1, ?_⟩
    obtain ⟨q, rfl⟩ := h.2
    exact hR.drewN q
  swap := fun p w i j hi hj hR _ => by
    refine (itemSwapK g n cap i j _ _ _ _ w (by omega) hi hj (hR.cell1 hi) (hR.cell2 hi) (hR.cell1 hj) (hR.cell2 hj) hR.frozen).mono fun e w' h => ⟨h.1, ?_⟩
    obtain ⟨q, rfl⟩ := h.2
    exact (hR.swap hi hj).drewN q

set_option maxHeartbeats 2000000 in
theorem implSortStableItems (A : Option Addr) (n c B : Nat) (f : Nat → Int × Int) (w : World) (hn : n * 16 ≤ 140737488351232) (hrd : RdI w B A n f) :
    Calls Try.prog 15 #[.slice A n c] w (OutPI w n f (stable (tabM (keyT f)) n fun k => k)) := by
  have HNu := Lib.hid (items A n c B f w hn hrd)
  have HSt := Lib.hid (fun (w1 : World) (g cap : Nat) (G : Nat → Value) (hr : w1.rowIs g 47 (cap * 2) G) (hnc : n ≤ cap) (hG : ∀ k, k < n * 2 → G k = cellI f k) =>
    sortStable (keyedS g n cap (cap * 2) f G w1 (by omega)) 165 (keyed_len _ _ _) keyed_en (fun k => k) (fun k => k) w1
      ((keyedLen (some ⟨g, 0, none⟩) n cap w1).mono fun e w2 h => ⟨h.1, by
        obtain ⟨q, rfl⟩ := h.2
        exact RowPI.drewN ⟨Below.refl _ _, hr.lt, by omega, hr.congr fun k _ => by
          by_cases hk : k < n * 2
          · rw [if_pos hk, hG k hk]
          · rw [if_neg hk]⟩ q⟩) trivial)
  have HSn := Lib.hid (fun (w1 : World) (cap : Nat) =>
    sortStable (T := 50) (rv := .slice none 0 cap) (gl := 166) (gs := 167) (n := 0) (M := tabM (keyT f)) (ok := fun _ => True) (R := fun _ w2 => Below w1.heap.size w1 w2)
      ⟨tabM_guard _, by omega, keyed_less _ _ _, keyed_swap _ _ _, keyed_el, keyed_es, fun _ _ i _ hi => absurd hi (Nat.not_lt_zero _), fun _ _ i _ hi => absurd hi (Nat.not_lt_zero _)⟩ 165 (keyed_len _ _ _) keyed_en (fun k => k) (fun k => k) w1
      ((keyedLen none 0 cap w1).mono fun e w2 h => ⟨h.1, by obtain ⟨q, rfl⟩ := h.2; exact below_drewN (Below.refl _ _) q⟩) trivial)
  clear hrd
  go_enter Try.func15, Try.ntmps15
  go_wp2_with fail
  refine HNu.out.mono ?_
  rintro e w1 ⟨v1, rfl, ⟨G, hG, hF⟩, hb1⟩
  have H1 := Lib.hid hb1
  rcases hG with ⟨rfl, h0⟩ | ⟨g, cap, rfl, hg, hnc, hr⟩
  · have HC := Lib.hid (HSn.out w1 0)
    have H0n := Lib.hid h0
    clear h0 hF hb1 HSn HSt HNu
    go_wp2_with fail
    refine HC.out.mono ?_
    rintro e w2 ⟨rfl, hb2⟩
    have HB2 := Lib.hid (H1.out.trans (hb2.mono H1.out.size)); clear hb2
    go_wp2_with fail
    go_ret
    exact ⟨_, rfl, ⟨fun _ => .bool false, .inl ⟨rfl, H0n.out⟩, fun k hk => absurd hk (by rw [H0n.out]; omega)⟩, HB2.out⟩
  · have HC := Lib.hid (HSt.out w1 g cap G hr hnc hF)
    have HGg := Lib.hid (And.intro hg hnc)
    clear hF hb1 HSn HSt HNu hg hnc hr
    go_wp2_with fail
    refine HC.out.mono ?_
    rintro e w2 ⟨rfl, hR2⟩
    have HR2 := Lib.hid hR2; clear hR2
    go_wp2_with fail
    go_ret
    refine ⟨_, rfl, ⟨_, .inr ⟨g, cap, rfl, HGg.out.1, HGg.out.2, HR2.out.2.2.2⟩, fun k hk => if_pos hk⟩, H1.out.trans (HR2.out.1.mono HGg.out.1)⟩
end Go.Proofs.Ytjammaglboehcaa
