/-
  impl.SortSortByOrder, told by any machine that asks the same table (a machine that keeps a log, say).
-/
import Derived.Test.YtkklbnheiganlaaPqQ
namespace Go.Proofs.Ytkklbnheiganlaa
open Go.RowKit Go.Proofs
set_option linter.unusedVariables false

theorem orderedVQ {σ : Type} (M : Mach σ) (v : σ → Nat → Nat) (sz : Int) (A : Option Addr) (m c B : Nat) (gb : Nat → Bool) (g n cap len : Nat) (f : Nat → Int) (G : Nat → Value) (T : Nat → Nat → Bool) (hV : View M T v) (w0 : World) (hsz : I64 sz) (hm : m ≤ 140737488351232) (hB : B ≤ g) (hrd : Rd w0 B Value.bool A m gb)
    (hf64 : ∀ i, I64 (f i)) (hn : n ≤ 1152921504606846975) (hT : ∀ i j, i < n → j < n → T i j = relB sz m gb (f i) (f j)) :
    IfaceQ M (fun _ => True) (fun x s w => (RowP w0 g 3 n len (fun k => .int .i64 (f k)) G (v s) w ∧ PermN n (v s)) ∧ Frn g x w) 67 (.agg #[.slice (some ⟨g, 0, none⟩) n cap, .int .i64 sz, .slice A m c]) 153 154 n where
  face := fun x => {
    guard := ⟨fun _ _ _ _ => trivial, fun _ _ _ _ => trivial⟩
    hn := hn
    mL := ordered_less _
    mS := ordered_swap _
    eL := ordered_el
    eS := ordered_es
    less := fun s w i j hi hj hR _ => by
      have hgB : g < w.heap.size := hR.1.1.lt
      refine (orderedLess (some ⟨g, 0, none⟩) n cap sz A m c i j B w.heap.size gb (fun k => f (v s k)) w hsz hm (by omega) (hrd.keep hR.1.1.1 hB) (fun k => hf64 _) (by omega) (Nat.le_refl _)
        (fun _ => ⟨g, 0, rfl, hgB, fun k hk => by rw [Nat.zero_add]; exact hR.1.1.cell hk⟩) hi hj).mono fun e w' h => ⟨?_, ⟨by rw [hV.tick]; exact hR.1.1.keep h.2, by rw [hV.tick]; exact hR.1.2⟩, hR.2.keep h.2⟩
      rw [h.1, hV.less, hT _ _ (hR.1.2.1 i hi) (hR.1.2.1 j hj)]
    swap := fun s w i j hi hj hR _ => by
      refine (orderedSwap g n cap sz A m c i j (f (v s i)) (f (v s j)) w (by omega) hi hj hR.1.1.lt (hR.1.1.cell hi) (hR.1.1.cell hj) (hR.1.1.frozen i) (hR.1.1.frozen j)).mono fun e w' h => ⟨h.1, ?_⟩
      obtain ⟨q, o, rfl⟩ := h.2
      have hal := (Below.refl w.heap.size w).alloc (Nat.le_refl _) o
      rw [hV.swap]
      exact ⟨⟨((hR.1.1.keep hal).swap hi hj).drewN q, permN_swap hR.1.2 hi hj⟩, (((hR.2.keep hal).setCell rfl _).setCell rfl _).drewN q⟩ }
  box := boxQ_of (fun s w => RowP w0 g 3 n len (fun k => .int .i64 (f k)) G (v s) w ∧ PermN n (v s)) g
    (fun s w w' h hb => ⟨h.1.keep hb, h.2⟩) (fun s w b u h hg => ⟨h.1.lowB ((Below.refl b w).setCell (p := ⟨b, 0, none⟩) (Nat.le_refl _) _) hg, h.2⟩) (fun s w q h => ⟨h.1.drewN q, h.2⟩) (fun s w h => h.1.lt)

set_option maxHeartbeats 2000000 in
theorem implSortSortByOrderV {σ : Type} (M : Mach σ) (v : σ → Nat → Nat) (s0 : σ) (hs0 : v s0 = fun k => k) (sz : Int) (A : Option Addr) (m c B : Nat) (gb : Nat → Bool) (A' : Option Addr) (n c' B' : Nat) (f : Nat → Int) (T : Nat → Nat → Bool) (hV : View M T v) (w : World) (hsz : I64 sz) (hm : m ≤ 140737488351232) (hB : B ≤ w.heap.size) (hrd : Rd w B Value.bool A m gb)
    (hf64 : ∀ i, I64 (f i)) (hn : n * 8 ≤ 140737488351232) (hB' : B' ≤ w.heap.size) (hrd' : Rd w B' (Value.int .i64) A' n f) (hT : ∀ i j, i < n → j < n → T i j = relB sz m gb (f i) (f j)) :
    Calls Try.prog 24 #[.slice A' n c', .agg #[.int .i64 sz, .slice A m c]] w (OutP w n f (v (pdqS M othR n s0))) := by
  have HNu := Lib.hid (numbers A' n c' B' f (w.alloc (.cells #[.int .i64 sz, .slice A m c] 36)) hn (hrd'.alloc hB' _))
  have H0 := Lib.hid (BoxInv.first w sz A m c 36)
  have HSt := Lib.hid (fun (w1 : World) (g cap : Nat) (G : Nat → Value) (hb : Below w.heap.size w w1) (hg : w.heap.size ≤ g) (hr : w1.rowIs g 3 (cap * 1) G) (hnc : n ≤ cap) (hG : ∀ k, k < n → G k = .int .i64 (f k)) =>
    sortSort (orderedVQ M v sz A m c B gb g n cap (cap * 1) f G T hV w1 hsz hm (by omega) (hrd.keep hb hB) hf64 (by omega) hT) 152 (ordered_len _) ordered_en s0 w1
      ((orderedLen (some ⟨g, 0, none⟩) n cap sz A m c w1).mono fun e w2 h => ⟨h.1, ⟨RowP.keep ⟨Below.refl _ _, hr.lt, by omega, hr.congr fun k _ => by
        by_cases hk : k < n
        · rw [if_pos hk, hG k hk, hs0]
        · rw [if_neg hk]⟩ h.2, by rw [hs0]; exact permN_id n⟩, fun _ _ e => by simp at e⟩) trivial)
  have HSn := Lib.hid (fun (w1 : World) (cap : Nat) =>
    sortNone T 67 (.agg #[.slice none 0 cap, .int .i64 sz, .slice A m c]) 153 154 152 (ordered_less _) (ordered_swap _) ordered_el ordered_es (ordered_len _) ordered_en w1
      ((orderedLen none 0 cap sz A m c w1).mono fun e w2 h => ⟨h.1, h.2⟩))
  clear hrd hrd' hB hB' hf64 hsz hT
  go_enter Try.func24, Try.ntmps24
  go_wp2_with fail
  refine HNu.out.mono ?_
  rintro e w1 ⟨v1, rfl, ⟨G, hG, hF⟩, hb1⟩
  have H1 := Lib.hid (H0.out.step hb1)
  have p0 := H1.out.c0
  have p1 := H1.out.c1
  have hbs : w.heap.size ≤ (w.alloc (.cells #[.int .i64 sz, .slice A m c] 36)).heap.size := by simp
  rcases hG with ⟨rfl, h0⟩ | ⟨g, cap, rfl, hg, hnc, hr⟩
  · have HC := Lib.hid (HSn.out w1 0)
    have H0n := Lib.hid h0
    clear h0 hF hb1 HSn HSt HNu hbs
    go_wp2_with fail
    refine HC.out.mono ?_
    rintro e w2 ⟨rfl, hb2⟩
    have HB2 := Lib.hid (H1.out.bel.trans (hb2.mono H1.out.bel.size)); clear hb2
    go_wp2_with fail
    go_ret
    exact ⟨_, rfl, ⟨fun _ => .bool false, .inl ⟨rfl, H0n.out⟩, fun k hk => absurd hk (by rw [H0n.out]; omega)⟩, HB2.out⟩
  · have HC := Lib.hid (HSt.out w1 g cap G H1.out.bel (Nat.le_trans hbs hg) hr hnc (fun k hk => hF k (by omega)))
    have HGg := Lib.hid (And.intro (Nat.le_trans hbs hg) hnc)
    clear hF hb1 HSn HSt HNu hbs hg hnc hr
    go_wp2_with fail
    refine HC.out.mono ?_
    rintro e w2 ⟨rfl, hR2⟩
    have HR2 := Lib.hid hR2; clear hR2
    go_wp2_with fail
    go_ret
    refine ⟨_, rfl, ⟨fun k => if k < n then .int .i64 (f (v (pdqS M othR n s0) k)) else G k, .inr ⟨g, cap, rfl, HGg.out.1, HGg.out.2, HR2.out.1.1.2.2.2⟩, fun k hk => if_pos hk⟩, H1.out.bel.trans (HR2.out.1.1.1.mono HGg.out.1)⟩
end Go.Proofs.Ytkklbnheiganlaa
