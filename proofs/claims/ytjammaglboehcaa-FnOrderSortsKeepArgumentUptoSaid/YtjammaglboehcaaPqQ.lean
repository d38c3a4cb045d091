/-
  The machine of an array under a table, its memory with room for a box; ordered as a value with Less and Swap; impl.SortSortByOrder.
-/
import Derived.Test.YtjammaglboehcaaPqI5
import Derived.Test.YtjammaglboehcaaZB
import Derived.Test.YtjammaglboehcaaStOr
namespace Go.Proofs.Ytjammaglboehcaa
open Go.RowKit Go.Proofs
set_option linter.unusedVariables false

/-- The machine whose state is an array of numbers: which element stands where. -/
def tabA (T : Nat → Nat → Bool) : Mach (Array Nat) := ⟨fun d i j => T d[i]! d[j]!, fun d _ _ => d, fun d i j => Sort.swp d i j⟩
theorem tabA_arr (T : Nat → Nat → Bool) : ArrV (tabA T) T (fun d => d) := ⟨fun _ _ _ => rfl, fun _ _ _ => rfl, fun _ _ _ => rfl⟩
theorem tabA_guard (T : Nat → Nat → Bool) : Guard (tabA T) (fun _ => True) := ⟨fun _ _ _ _ => trivial, fun _ _ _ _ => trivial⟩
/-- which element stands where -/
def atA (d : Array Nat) (k : Nat) : Nat := d[k]!
theorem atA_swp {d : Array Nat} {n i j k : Nat} (hd : d.size = n) (hi : i < n) (hj : j < n) (hk : k < n) : atA (Sort.swp d i j) k = swapF (atA d) i j k := by
  unfold atA swapF
  by_cases h1 : k = i
  · subst h1
    rw [if_pos rfl]
    by_cases h2 : k = j
    · subst h2; exact Sort.swp_right d k k (by omega)
    · exact Sort.swp_left d k j (by omega) h2
  · rw [if_neg h1]
    by_cases h2 : k = j
    · subst h2; rw [if_pos rfl]; exact Sort.swp_right d i k (by omega)
    · rw [if_neg h2]; exact Sort.swp_other d i j k h1 h2
def PermA (n : Nat) (d : Array Nat) : Prop := d.size = n ∧ PermN n (atA d)
theorem permN_congr {n : Nat} {p q : Nat → Nat} (h : PermN n p) (he : ∀ k, k < n → q k = p k) : PermN n q :=
  ⟨fun k hk => by rw [he k hk]; exact h.1 k hk, fun i j hi hj e => by rw [he i hi, he j hj] at e; exact h.2 i j hi hj e⟩
theorem permA_swp {n : Nat} {d : Array Nat} (h : PermA n d) {i j : Nat} (hi : i < n) (hj : j < n) : PermA n (Sort.swp d i j) :=
  ⟨by rw [Sort.size_swp]; exact h.1, permN_congr (permN_swap h.2 hi hj) fun k hk => atA_swp h.1 hi hj hk⟩
theorem tabA_keeps (T : Nat → Nat → Bool) (n : Nat) : Keeps (tabA T) n (PermA n) := ⟨fun _ _ _ _ _ h => h, fun _ _ _ hi hj h => permA_swp h hi hj⟩
def idA (n : Nat) : Array Nat := Array.range n
theorem idA_at {n k : Nat} (h : k < n) : atA (idA n) k = k := by unfold atA idA; rw [getElem!_pos _ k (by simpa using h)]; simp
theorem permA_id (n : Nat) : PermA n (idA n) := ⟨by simp [idA], permN_congr (permN_id n) fun k hk => idA_at hk⟩

/-- The order that sort.Sort leaves. -/
def sortP (T : Nat → Nat → Bool) (n : Nat) : Nat → Nat := atA (pdqS (tabA T) othR n (idA n))
theorem sortP_permA (T : Nat → Nat → Bool) (n : Nat) : PermA n (pdqS (tabA T) othR n (idA n)) := (way_pdqS (n := n) othR_ok _).keep (tabA_keeps T n) (permA_id n)
theorem sortP_perm (T : Nat → Nat → Bool) (n : Nat) : PermN n (sortP T n) := (sortP_permA T n).2

/-- a table as a strict order of the places below n -/
def clamp (n : Nat) (T : Nat → Nat → Bool) (i j : Nat) : Bool := decide (i < n) && decide (j < n) && T i j

section
variable {w0 w w' : World} {g : Nat} {t : TypeId} {n len : Nat} {e G : Nat → Value} {p q : Nat → Nat}
theorem RowP.congr (h : RowP w0 g t n len e G p w) (he : ∀ k, k < n → q k = p k) : RowP w0 g t n len e G q w :=
  ⟨h.1, h.2.1, h.2.2.1, h.2.2.2.congr fun k _ => by
    by_cases hk : k < n
    · rw [if_pos hk, if_pos hk, he k hk]
    · rw [if_neg hk, if_neg hk]⟩
theorem RowP.lowB {B : Nat} (h : RowP w0 g t n len e G p w) (hb : Below B w w') (hg : g < B) : RowP w0 g t n len e G p w' :=
  ⟨h.1.trans (hb.mono (Nat.le_of_lt hg)), h.2.1, h.2.2.1, rowIs_below h.2.2.2 hb hg⟩
end

/-- A box of one cell behind the block g. -/
def Frn (g : Nat) (x : Option (Nat × Value)) (w : World) : Prop := ∀ b v, x = some (b, v) → g < b ∧ b < w.heap.size ∧ w.cell? ⟨b, 0, none⟩ = some v ∧ w.frozen? ⟨b, 0, none⟩ = false
section
variable {w w' : World} {g : Nat} {x : Option (Nat × Value)}
theorem Frn.keep (h : Frn g x w) (hb : Below w.heap.size w w') : Frn g x w' := fun b v e => by
  obtain ⟨h1, h2, h3, h4⟩ := h b v e
  exact ⟨h1, Nat.lt_of_lt_of_le h2 hb.size, (hb.cell (p := ⟨b, 0, none⟩) h2).trans h3, (hb.frozen (p := ⟨b, 0, none⟩) h2).trans h4⟩
theorem Frn.drewN (h : Frn g x w) (q : Nat) : Frn g x (w.drewN q) := h
theorem Frn.setCell (h : Frn g x w) {a : Addr} (ha : a.block = g) (u : Value) : Frn g x (w.setCell a u) := fun b v e => by
  obtain ⟨h1, h2, h3, h4⟩ := h b v e
  refine ⟨h1, by simpa [World.setCell] using h2, ?_, (World.frozen?_setCell _ _ _ _).trans h4⟩
  rw [World.cell?_setCell_other _ _ _ _ (fun e => by rw [e] at ha; exact absurd ha (Nat.ne_of_gt h1))]
  exact h3
end

/-- What is kept by all that leaves the block g and all below it as it is, has room for a box. -/
theorem boxQ_of {σ : Type} (K : σ → World → Prop) (g : Nat) (hk : ∀ s w w', K s w → Below w.heap.size w w' → K s w') (hs : ∀ s w b v, K s w → g < b → K s (w.setCell ⟨b, 0, none⟩ v)) (hd : ∀ s w q, K s w → K s (w.drewN q)) (hl : ∀ s w, K s w → g < w.heap.size) :
    BoxQ (fun x s w => K s w ∧ Frn g x w) where
  opn := fun s w v t h => ⟨hk s w _ h.1 ((Below.refl w.heap.size w).alloc (Nat.le_refl _) _), fun b u e => by
    simp only [Option.some.injEq, Prod.mk.injEq] at e
    obtain ⟨rfl, rfl⟩ := e
    exact ⟨hl s w h.1, by simp, by simp [go_sem], by simp [go_sem]⟩⟩
  sto := fun s w b v v' h => by
    obtain ⟨h1, h2, h3, h4⟩ := h.2 b v rfl
    refine ⟨hs s w b v' h.1 h1, fun b' u e => ?_⟩
    simp only [Option.some.injEq, Prod.mk.injEq] at e
    obtain ⟨rfl, rfl⟩ := e
    exact ⟨h1, by simpa [World.setCell] using h2, World.cell?_setCell_same _ _ _ h3, (World.frozen?_setCell _ _ _ _).trans h4⟩
  cls := fun s w b v h => ⟨h.1, fun _ _ e => by simp at e⟩
  cel := fun s w b v h => (h.2 b v rfl).2.2
  drw := fun x s w q h => ⟨hd s w q h.1, h.2⟩

/-- Memory of a row in the order of an array. -/
def RowA (w0 : World) (g : Nat) (t : TypeId) (n len : Nat) (e G : Nat → Value) (d : Array Nat) (w : World) : Prop := RowP w0 g t n len e G (atA d) w ∧ PermA n d

/-- ordered over a row of its own, as a value with Less and Swap and room for a box. -/
theorem orderedQ (sz : Int) (A : Option Addr) (m c B : Nat) (gb : Nat → Bool) (g n cap len : Nat) (f : Nat → Int) (G : Nat → Value) (T : Nat → Nat → Bool) (w0 : World) (hsz : I64 sz) (hm : m ≤ 140737488351232) (hB : B ≤ g) (hrd : Rd w0 B Value.bool A m gb)
    (hf64 : ∀ i, I64 (f i)) (hn : n ≤ 1152921504606846975) (hT : ∀ i j, i < n → j < n → T i j = relB sz m gb (f i) (f j)) :
    IfaceQ (tabA T) (fun _ => True) (fun x d w => RowA w0 g 3 n len (fun k => .int .i64 (f k)) G d w ∧ Frn g x w) 62 (.agg #[.slice (some ⟨g, 0, none⟩) n cap, .int .i64 sz, .slice A m c]) 172 173 n where
  face := fun x => {
    guard := tabA_guard T
    hn := hn
    mL := ordered_less _
    mS := ordered_swap _
    eL := ordered_el
    eS := ordered_es
    less := fun d w i j hi hj hR _ => by
      have hgB : g < w.heap.size := hR.1.1.lt
      refine (orderedLess (some ⟨g, 0, none⟩) n cap sz A m c i j B w.heap.size gb (fun k => f (atA d k)) w hsz hm (by omega) (hrd.keep hR.1.1.1 hB) (fun k => hf64 _) (by omega) (Nat.le_refl _)
        (fun _ => ⟨g, 0, rfl, hgB, fun k hk => by rw [Nat.zero_add]; exact hR.1.1.cell hk⟩) hi hj).mono fun e w' h => ⟨?_, ⟨hR.1.1.keep h.2, hR.1.2⟩, hR.2.keep h.2⟩
      rw [h.1]
      show _ = Ending.returned (.bool (T (atA d i) (atA d j)))
      rw [hT _ _ (hR.1.2.2.1 i hi) (hR.1.2.2.1 j hj)]
    swap := fun d w i j hi hj hR _ => by
      refine (orderedSwap g n cap sz A m c i j (f (atA d i)) (f (atA d j)) w (by omega) hi hj hR.1.1.lt (hR.1.1.cell hi) (hR.1.1.cell hj) (hR.1.1.frozen i) (hR.1.1.frozen j)).mono fun e w' h => ⟨h.1, ?_⟩
      obtain ⟨q, o, rfl⟩ := h.2
      have hal := (Below.refl w.heap.size w).alloc (Nat.le_refl _) o
      exact ⟨⟨((hR.1.1.keep hal).swap hi hj).congr (fun k hk => atA_swp hR.1.2.1 hi hj hk) |>.drewN q, permA_swp hR.1.2 hi hj⟩, (((hR.2.keep hal).setCell rfl _).setCell rfl _).drewN q⟩ }
  box := boxQ_of (fun d w => RowA w0 g 3 n len (fun k => .int .i64 (f k)) G d w) g
    (fun s w w' h hb => ⟨h.1.keep hb, h.2⟩) (fun s w b v h hg => ⟨h.1.lowB ((Below.refl b w).setCell (p := ⟨b, 0, none⟩) (Nat.le_refl _) _) hg, h.2⟩) (fun s w q h => ⟨h.1.drewN q, h.2⟩) (fun s w h => h.1.lt)

/-- sort.Sort of a value without elements. -/
theorem sortNone (T : Nat → Nat → Bool) (ty : TypeId) (rv : Value) (gl gs gn : Nat) (mL : ∀ w, (method 266 ty rv "Less").run Try.prog w = .ok (gl, rv) w) (mS : ∀ w, (method 266 ty rv "Swap").run Try.prog w = .ok (gs, rv) w)
    (eL : ∀ args w, (callFunc gl args).run Try.prog w = .ok (.enter gl args) w) (eS : ∀ args w, (callFunc gs args).run Try.prog w = .ok (.enter gs args) w)
    (mN : ∀ w, (method 266 ty rv "Len").run Try.prog w = .ok (gn, rv) w) (eN : ∀ args w, (callFunc gn args).run Try.prog w = .ok (.enter gn args) w) (w1 : World)
    (hN : Calls Try.prog gn #[rv] w1 fun e w' => e = .returned (.int .i64 0) ∧ Below w1.heap.size w1 w') : Calls Try.prog 37 #[.iface ty rv] w1 (Leaves (fun (_ : Unit) w' => Below w1.heap.size w1 w') ()) := by
  have HN := Lib.hid hN
  clear hN
  go_enter Try.func37, Try.ntmps37
  go_wp2_with fail
  refine HN.out.mono ?_
  rintro e w2 ⟨rfl, hb⟩
  have HB := Lib.hid hb; clear hb
  go_wp2_with fail
  go_end0
  exact ⟨rfl, HB.out⟩

set_option maxHeartbeats 2000000 in
theorem implSortSortByOrder (sz : Int) (A : Option Addr) (m c B : Nat) (gb : Nat → Bool) (A' : Option Addr) (n c' B' : Nat) (f : Nat → Int) (T : Nat → Nat → Bool) (w : World) (hsz : I64 sz) (hm : m ≤ 140737488351232) (hB : B ≤ w.heap.size) (hrd : Rd w B Value.bool A m gb)
    (hf64 : ∀ i, I64 (f i)) (hn : n * 8 ≤ 140737488351232) (hB' : B' ≤ w.heap.size) (hrd' : Rd w B' (Value.int .i64) A' n f) (hT : ∀ i j, i < n → j < n → T i j = relB sz m gb (f i) (f j)) :
    Calls Try.prog 23 #[.slice A' n c', .agg #[.int .i64 sz, .slice A m c]] w (OutP w n f (sortP T n)) := by
  have HNu := Lib.hid (numbers A' n c' B' f (w.alloc (.cells #[.int .i64 sz, .slice A m c] 33)) hn (hrd'.alloc hB' _))
  have H0 := Lib.hid (BoxInv.first w sz A m c 33)
  have HSt := Lib.hid (fun (w1 : World) (g cap : Nat) (G : Nat → Value) (hb : Below w.heap.size w w1) (hg : w.heap.size ≤ g) (hr : w1.rowIs g 3 (cap * 1) G) (hnc : n ≤ cap) (hG : ∀ k, k < n → G k = .int .i64 (f k)) =>
    sortSort (orderedQ sz A m c B gb g n cap (cap * 1) f G T w1 hsz hm (by omega) (hrd.keep hb hB) hf64 (by omega) hT) 171 (ordered_len _) ordered_en (idA n) w1
      ((orderedLen (some ⟨g, 0, none⟩) n cap sz A m c w1).mono fun e w2 h => ⟨h.1, ⟨RowP.keep ⟨Below.refl _ _, hr.lt, by omega, hr.congr fun k _ => by
        by_cases hk : k < n
        · rw [if_pos hk, hG k hk, idA_at hk]
        · rw [if_neg hk]⟩ h.2, permA_id n⟩, fun _ _ e => by simp at e⟩) trivial)
  have HSn := Lib.hid (fun (w1 : World) (cap : Nat) =>
    sortNone T 62 (.agg #[.slice none 0 cap, .int .i64 sz, .slice A m c]) 172 173 171 (ordered_less _) (ordered_swap _) ordered_el ordered_es (ordered_len _) ordered_en w1
      ((orderedLen none 0 cap sz A m c w1).mono fun e w2 h => ⟨h.1, h.2⟩))
  clear hrd hrd' hB hB' hf64 hsz hT
  go_enter Try.func23, Try.ntmps23
  go_wp2_with fail
  refine HNu.out.mono ?_
  rintro e w1 ⟨v1, rfl, ⟨G, hG, hF⟩, hb1⟩
  have H1 := Lib.hid (H0.out.step hb1)
  have p0 := H1.out.c0
  have p1 := H1.out.c1
  have hbs : w.heap.size ≤ (w.alloc (.cells #[.int .i64 sz, .slice A m c] 33)).heap.size := by simp
  rcases hG with ⟨rfl, h0⟩ | ⟨g, cap, rfl, hg, hnc, hr⟩
  · have HC := Lib.hid (HSn.out w1 0)
    have H0n := Lib.hid h0
    clear h0 hF hb1 HSn HSt HNu hbs
    go_wp2_with fail
    refine HC.out.mono ?_
    rintro e w2 ⟨rfl, hb2⟩
    have HB2 := Lib.hid (H1.out.bel.trans (hb2.mono H1.out.bel.size)); clear hb2
    go_wp2_with fail
    go_ret
    exact ⟨_, rfl, ⟨fun _ => .bool false, .inl ⟨rfl, H0n.out⟩, fun k hk => absurd hk (by rw [H0n.out]; omega)⟩, HB2.out⟩
  · have HC := Lib.hid (HSt.out w1 g cap G H1.out.bel (Nat.le_trans hbs hg) hr hnc (fun k hk => hF k (by omega)))
    have HGg := Lib.hid (And.intro (Nat.le_trans hbs hg) hnc)
    clear hF hb1 HSn HSt HNu hbs hg hnc hr
    go_wp2_with fail
    refine HC.out.mono ?_
    rintro e w2 ⟨rfl, hR2⟩
    have HR2 := Lib.hid hR2; clear hR2
    go_wp2_with fail
    go_ret
    refine ⟨_, rfl, ⟨fun k => if k < n then .int .i64 (f (sortP T n k)) else G k, .inr ⟨g, cap, rfl, HGg.out.1, HGg.out.2, HR2.out.1.1.2.2.2⟩, fun k hk => if_pos hk⟩, H1.out.bel.trans (HR2.out.1.1.1.mono HGg.out.1)⟩
end Go.Proofs.Ytjammaglboehcaa
