/-
  keyed and whole as values with Less and Swap and room for a box; impl.SortSortItems and impl.SortSortWhole.
-/
import Derived.Test.YtjammaglboehcaaPqQ
import Derived.Test.YtjammaglboehcaaStKy
import Derived.Test.YtjammaglboehcaaCmpI
import Derived.StillTailTactics
namespace Go.Proofs.Ytjammaglboehcaa
open Go.RowKit Go.Proofs
set_option linter.unusedVariables false

section
variable {w0 w w' : World} {g : Nat} {t : TypeId} {n len : Nat} {f : Nat → Int × Int} {G : Nat → Value} {p q : Nat → Nat}
theorem RowPI.congr (h : RowPI w0 g t n len f G p w) (he : ∀ k, k < n → q k = p k) : RowPI w0 g t n len f G q w :=
  ⟨h.1, h.2.1, h.2.2.1, h.2.2.2.congr fun k _ => by
    by_cases hk : k < n * 2
    · rw [if_pos hk, if_pos hk]; unfold cellI; dsimp only; rw [he (k / 2) (by omega)]
    · rw [if_neg hk, if_neg hk]⟩
theorem RowPI.lowB {B : Nat} (h : RowPI w0 g t n len f G p w) (hb : Below B w w') (hg : g < B) : RowPI w0 g t n len f G p w' :=
  ⟨h.1.trans (hb.mono (Nat.le_of_lt hg)), h.2.1, h.2.2.1, rowIs_below h.2.2.2 hb hg⟩
end
/-- Memory of a row of items in the order of an array. -/
def RowAI (w0 : World) (g : Nat) (t : TypeId) (n len : Nat) (f : Nat → Int × Int) (G : Nat → Value) (d : Array Nat) (w : World) : Prop := RowPI w0 g t n len f G (atA d) w ∧ PermA n d
theorem boxI (w0 : World) (g : Nat) (t : TypeId) (n len : Nat) (f : Nat → Int × Int) (G : Nat → Value) : BoxQ (fun x d w => RowAI w0 g t n len f G d w ∧ Frn g x w) :=
  boxQ_of (fun d w => RowAI w0 g t n len f G d w) g
    (fun s w w' h hb => ⟨h.1.keep hb, h.2⟩) (fun s w b v h hg => ⟨h.1.lowB ((Below.refl b w).setCell (p := ⟨b, 0, none⟩) (Nat.le_refl _) _) hg, h.2⟩) (fun s w q h => ⟨h.1.drewN q, h.2⟩) (fun s w h => h.1.lt)
theorem rowAI_swap {w0 w : World} {g : Nat} {t : TypeId} {n len : Nat} {f : Nat → Int × Int} {G : Nat → Value} {d : Array Nat} {x : Option (Nat × Value)} {i j : Nat} (hi : i < n) (hj : j < n) (h : RowAI w0 g t n len f G d w ∧ Frn g x w) (q : Nat) :
    RowAI w0 g t n len f G (Sort.swp d i j) ((swapW w g i j (f (atA d i)) (f (atA d j))).drewN q) ∧ Frn g x ((swapW w g i j (f (atA d i)) (f (atA d j))).drewN q) :=
  ⟨⟨((h.1.1.swap hi hj).congr fun k hk => atA_swp h.1.2.1 hi hj hk).drewN q, permA_swp h.1.2 hi hj⟩, ((((h.2.setCell rfl _).setCell rfl _).setCell rfl _).setCell rfl _).drewN q⟩

theorem keyedQ (g n cap len : Nat) (f : Nat → Int × Int) (G : Nat → Value) (w0 : World) (hn : n ≤ 1152921504606846975) :
    IfaceQ (tabA (keyT f)) (fun _ => True) (fun x d w => RowAI w0 g 47 n len f G d w ∧ Frn g x w) 50 (.slice (some ⟨g, 0, none⟩) n cap) 166 167 n where
  face := fun x => {
    guard := tabA_guard _
    hn := hn
    mL := keyed_less _ _ _
    mS := keyed_swap _ _ _
    eL := keyed_el
    eS := keyed_es
    less := fun d w i j hi hj hR _ => by
      refine (keyedLess (some ⟨g, 0, none⟩) n cap i j _ (fun k => f (atA d k)) w (by omega) hi hj hR.1.1.rd).mono fun e w' h => ⟨h.1, ?_⟩
      obtain ⟨q, rfl⟩ := h.2
      exact ⟨⟨hR.1.1.drewN q, hR.1.2⟩, hR.2⟩
    swap := fun d w i j hi hj hR _ => by
      refine (itemSwapK g n cap i j _ _ _ _ w (by omega) hi hj (hR.1.1.cell1 hi) (hR.1.1.cell2 hi) (hR.1.1.cell1 hj) (hR.1.1.cell2 hj) hR.1.1.frozen).mono fun e w' h => ⟨h.1, ?_⟩
      obtain ⟨q, rfl⟩ := h.2
      exact rowAI_swap hi hj hR q }
  box := boxI _ _ _ _ _ _ _

/-- The order of items by their keys and tags. -/
def lexT (f : Nat → Int × Int) (i j : Nat) : Bool := lexB (f i) (f j)
set_option maxHeartbeats 1000000 in
theorem wholeLen (A : Option Addr) (n c : Nat) (w : World) : Calls Try.prog 168 #[.slice A n c] w fun e w' => e = .returned (.int .i64 n) ∧ ∃ q, w' = w.drewN q := by
  go_enter Try.func168, Try.ntmps168
  go_wp2_with fail
  go_ret
  exact ⟨rfl, 0, rfl⟩
set_option maxRecDepth 100000 in
set_option maxHeartbeats 1000000 in
theorem wholeLess (A : Option Addr) (n c i j B : Nat) (f : Nat → Int × Int) (w : World) (hn : n ≤ 4611686018427387903) (hi : i < n) (hj : j < n) (hrd : RdI w B A n f) :
    Calls Try.prog 169 #[.slice A n c, .int .i64 i, .int .i64 j] w fun e w' => e = .returned (.bool (lexB (f i) (f j))) ∧ Below w.heap.size w w' := by
  obtain ⟨b, off, rfl, _, hc1, hc2⟩ := hrd.at hi
  obtain ⟨b', off', h', _, hd1, hd2⟩ := hrd.at hj
  simp only [Option.some.injEq, Addr.mk.injEq, and_true] at h'
  obtain ⟨rfl, rfl⟩ := h'
  have hC := byWhole (f i) (f j) (w.drewN 1)
  have hE := cmpW_neg (f i) (f j)
  clear hrd
  generalize cmpW (f i) (f j) = z at *
  generalize lexB (f i) (f j) = v at *
  generalize (f i).1 = x1 at *
  generalize (f i).2 = x2 at *
  generalize (f j).1 = y1 at *
  generalize (f j).2 = y2 at *
  have HC := Lib.hid hC
  clear hC
  have hiz : (i : Int) < (n : Int) := by omega
  have hjz : (j : Int) < (n : Int) := by omega
  go_enter Try.func169, Try.ntmps169
  go_wp2_with fail
  go_still_tail 8, (by kernel_rfl)
  change wpList _ _ _ _ _ (w.drewN 1)
  go_wp2_with fail
  refine HC.out.mono ?_
  rintro e w2 ⟨rfl, hb2⟩
  have HB2 := Lib.hid ((below_drewN (Below.refl w.heap.size w) 1).trans hb2); clear hb2
  go_wp2_with fail
  go_ret
  exact ⟨rfl, HB2.out⟩
theorem whole_len (A : Option Addr) (n c : Nat) (w : World) : (method 266 54 (.slice A n c) "Len").run Try.prog w = .ok (168, .slice A n c) w := by kernel_rfl
theorem whole_less (A : Option Addr) (n c : Nat) (w : World) : (method 266 54 (.slice A n c) "Less").run Try.prog w = .ok (169, .slice A n c) w := by kernel_rfl
theorem whole_swap (A : Option Addr) (n c : Nat) (w : World) : (method 266 54 (.slice A n c) "Swap").run Try.prog w = .ok (170, .slice A n c) w := by kernel_rfl
theorem whole_en : ∀ args w, (callFunc 168 args).run Try.prog w = .ok (.enter 168 args) w := enters_of Try.func168 (by kernel_rfl) rfl
theorem whole_el : ∀ args w, (callFunc 169 args).run Try.prog w = .ok (.enter 169 args) w := enters_of Try.func169 (by kernel_rfl) rfl
theorem whole_es : ∀ args w, (callFunc 170 args).run Try.prog w = .ok (.enter 170 args) w := enters_of Try.func170 (by kernel_rfl) rfl
theorem wholeQ (g n cap len : Nat) (f : Nat → Int × Int) (G : Nat → Value) (w0 : World) (hn : n ≤ 1152921504606846975) :
    IfaceQ (tabA (lexT f)) (fun _ => True) (fun x d w => RowAI w0 g 47 n len f G d w ∧ Frn g x w) 54 (.slice (some ⟨g, 0, none⟩) n cap) 169 170 n where
  face := fun x => {
    guard := tabA_guard _
    hn := hn
    mL := whole_less _ _ _
    mS := whole_swap _ _ _
    eL := whole_el
    eS := whole_es
    less := fun d w i j hi hj hR _ => by
      refine (wholeLess (some ⟨g, 0, none⟩) n cap i j _ (fun k => f (atA d k)) w (by omega) hi hj hR.1.1.rd).mono fun e w' h => ⟨h.1, ?_⟩
      exact ⟨⟨hR.1.1.keep h.2, hR.1.2⟩, hR.2.keep h.2⟩
    swap := fun d w i j hi hj hR _ => by
      refine (itemSwapW g n cap i j _ _ _ _ w (by omega) hi hj (hR.1.1.cell1 hi) (hR.1.1.cell2 hi) (hR.1.1.cell1 hj) (hR.1.1.cell2 hj) hR.1.1.frozen).mono fun e w' h => ⟨h.1, ?_⟩
      obtain ⟨q, rfl⟩ := h.2
      exact rowAI_swap hi hj hR q }
  box := boxI _ _ _ _ _ _ _

set_option maxHeartbeats 2000000 in
theorem implSortSortItems (A : Option Addr) (n c B : Nat) (f : Nat → Int × Int) (w : World) (hn : n * 16 ≤ 140737488351232) (hrd : RdI w B A n f) :
    Calls Try.prog 13 #[.slice A n c] w (OutPI w n f (sortP (keyT f) n)) := by
  have HNu := Lib.hid (items A n c B f w hn hrd)
  have HSt := Lib.hid (fun (w1 : World) (g cap : Nat) (G : Nat → Value) (hr : w1.rowIs g 47 (cap * 2) G) (hnc : n ≤ cap) (hG : ∀ k, k < n * 2 → G k = cellI f k) =>
    sortSort (keyedQ g n cap (cap * 2) f G w1 (by omega)) 165 (keyed_len _ _ _) keyed_en (idA n) w1
      ((keyedLen (some ⟨g, 0, none⟩) n cap w1).mono fun e w2 h => ⟨h.1, by
        obtain ⟨q, rfl⟩ := h.2
        exact ⟨⟨RowPI.drewN ⟨Below.refl _ _, hr.lt, by omega, hr.congr fun k _ => by
          by_cases hk : k < n * 2
          · rw [if_pos hk, hG k hk]
            unfold cellI; dsimp only
            rw [idA_at (show k / 2 < n by omega)]
          · rw [if_neg hk]⟩ q, permA_id n⟩, fun _ _ e => by simp at e⟩⟩) trivial)
  have HSn := Lib.hid (fun (w1 : World) (cap : Nat) =>
    sortNone (keyT f) 50 (.slice none 0 cap) 166 167 165 (keyed_less _ _ _) (keyed_swap _ _ _) keyed_el keyed_es (keyed_len _ _ _) keyed_en w1
      ((keyedLen none 0 cap w1).mono fun e w2 h => ⟨h.1, by obtain ⟨q, rfl⟩ := h.2; exact below_drewN (Below.refl _ _) q⟩))
  clear hrd
  go_enter Try.func13, Try.ntmps13
  go_wp2_with fail
  refine HNu.out.mono ?_
  rintro e w1 ⟨v1, rfl, ⟨G, hG, hF⟩, hb1⟩
  have H1 := Lib.hid hb1
  rcases hG with ⟨rfl, h0⟩ | ⟨g, cap, rfl, hg, hnc, hr⟩
  · have HC := Lib.hid (HSn.out w1 0)
    have H0n := Lib.hid h0
    clear h0 hF hb1 HSn HSt HNu
    go_wp2_with fail
    refine HC.out.mono ?_
    rintro e w2 ⟨rfl, hb2⟩
    have HB2 := Lib.hid (H1.out.trans (hb2.mono H1.out.size)); clear hb2
    go_wp2_with fail
    go_ret
    exact ⟨_, rfl, ⟨fun _ => .bool false, .inl ⟨rfl, H0n.out⟩, fun k hk => absurd hk (by rw [H0n.out]; omega)⟩, HB2.out⟩
  · have HC := Lib.hid (HSt.out w1 g cap G hr hnc hF)
    have HGg := Lib.hid (And.intro hg hnc)
    clear hF hb1 HSn HSt HNu hg hnc hr
    go_wp2_with fail
    refine HC.out.mono ?_
    rintro e w2 ⟨rfl, hR2⟩
    have HR2 := Lib.hid hR2; clear hR2
    go_wp2_with fail
    go_ret
    refine ⟨_, rfl, ⟨_, .inr ⟨g, cap, rfl, HGg.out.1, HGg.out.2, HR2.out.1.1.2.2.2⟩, fun k hk => if_pos hk⟩, H1.out.trans (HR2.out.1.1.1.mono HGg.out.1)⟩

set_option maxHeartbeats 2000000 in
theorem implSortSortWhole (A : Option Addr) (n c B : Nat) (f : Nat → Int × Int) (w : World) (hn : n * 16 ≤ 140737488351232) (hrd : RdI w B A n f) :
    Calls Try.prog 18 #[.slice A n c] w (OutPI w n f (sortP (lexT f) n)) := by
  have HNu := Lib.hid (items A n c B f w hn hrd)
  have HSt := Lib.hid (fun (w1 : World) (g cap : Nat) (G : Nat → Value) (hr : w1.rowIs g 47 (cap * 2) G) (hnc : n ≤ cap) (hG : ∀ k, k < n * 2 → G k = cellI f k) =>
    sortSort (wholeQ g n cap (cap * 2) f G w1 (by omega)) 168 (whole_len _ _ _) whole_en (idA n) w1
      ((wholeLen (some ⟨g, 0, none⟩) n cap w1).mono fun e w2 h => ⟨h.1, by
        obtain ⟨q, rfl⟩ := h.2
        exact ⟨⟨RowPI.drewN ⟨Below.refl _ _, hr.lt, by omega, hr.congr fun k _ => by
          by_cases hk : k < n * 2
          · rw [if_pos hk, hG k hk]
            unfold cellI; dsimp only
            rw [idA_at (show k / 2 < n by omega)]
          · rw [if_neg hk]⟩ q, permA_id n⟩, fun _ _ e => by simp at e⟩⟩) trivial)
  have HSn := Lib.hid (fun (w1 : World) (cap : Nat) =>
    sortNone (lexT f) 54 (.slice none 0 cap) 169 170 168 (whole_less _ _ _) (whole_swap _ _ _) whole_el whole_es (whole_len _ _ _) whole_en w1
      ((wholeLen none 0 cap w1).mono fun e w2 h => ⟨h.1, by obtain ⟨q, rfl⟩ := h.2; exact below_drewN (Below.refl _ _) q⟩))
  clear hrd
  go_enter Try.func18, Try.ntmps18
  go_wp2_with fail
  refine HNu.out.mono ?_
  rintro e w1 ⟨v1, rfl, ⟨G, hG, hF⟩, hb1⟩
  have H1 := Lib.hid hb1
  rcases hG with ⟨rfl, h0⟩ | ⟨g, cap, rfl, hg, hnc, hr⟩
  · have HC := Lib.hid (HSn.out w1 0)
    have H0n := Lib.hid h0
    clear h0 hF hb1 HSn HSt HNu
    go_wp2_with fail
    refine HC.out.mono ?_
    rintro e w2 ⟨rfl, hb2⟩
    have HB2 := Lib.hid (H1.out.trans (hb2.mono H1.out.size)); clear hb2
    go_wp2_with fail
    go_ret
    exact ⟨_, rfl, ⟨fun _ => .bool false, .inl ⟨rfl, H0n.out⟩, fun k hk => absurd hk (by rw [H0n.out]; omega)⟩, HB2.out⟩
  · have HC := Lib.hid (HSt.out w1 g cap G hr hnc hF)
    have HGg := Lib.hid (And.intro hg hnc)
    clear hF hb1 HSn HSt HNu hg hnc hr
    go_wp2_with fail
    refine HC.out.mono ?_
    rintro e w2 ⟨rfl, hR2⟩
    have HR2 := Lib.hid hR2; clear hR2
    go_wp2_with fail
    go_ret
    refine ⟨_, rfl, ⟨_, .inr ⟨g, cap, rfl, HGg.out.1, HGg.out.2, HR2.out.1.1.2.2.2⟩, fun k hk => if_pos hk⟩, H1.out.trans (HR2.out.1.1.1.mono HGg.out.1)⟩
end Go.Proofs.Ytjammaglboehcaa
