/-
  The walks of impl.numbers and impl.SortStableByOrder.
-/
import Derived.Test.YtjammaglboehcaaStO
import Derived.Test.YtjammaglboehcaaStR
import Derived.Test.YtjammaglboehcaaIsO
namespace Go.Proofs.Ytjammaglboehcaa
open Go.RowKit Go.Proofs
set_option linter.unusedVariables false

theorem infoIntS : (Try.prog.info? 3).map (fun i => (i.zero, i.size, i.bytes)) = some (some (.int .i64 0), 1, 8) := by kernel_rfl

set_option maxHeartbeats 1000000 in
theorem numbers (A : Option Addr) (n c B : Nat) (f : Nat → Int) (w : World) (hn : n * 8 ≤ 140737488351232) (hrd : Rd w B (Value.int .i64) A n f) :
    Calls Try.prog 45 #[.slice A n c] w fun e w' => ∃ v, e = .returned v ∧ Copied w 3 1 (fun j => .int .i64 (f j)) v n w' := by
  obtain ⟨i, hi, hz, hs, hby⟩ := info_parts infoIntS
  have HR := Lib.hid hrd; clear hrd
  go_enter Try.func45, Try.ntmps45
  go_wp2_with (at_builtin; refine wpList_copy_nil rfl _ _ 25 rfl 3 i _ 1 8 Try.underlying25 hi hz hs hby rfl (by omega) A n c (fun j => .int .i64 (f j)) rfl rfl (fun h => by obtain ⟨b, off, hA, _, hc⟩ := HR.out h; exact ⟨b, off, hA, fun j hj => hc j (by omega)⟩) (fun j hj => by simp [Value.oneCell']) (by simp [maxLen]; omega) (by omega) ?_; intro v1 w1 hcp; have HCp := Lib.hid hcp; clear hcp)
  go_ret
  exact ⟨v1, rfl, HCp.out⟩

/-- A list of the call's own: the elements of f in the order p. -/
def OutP (w : World) (n : Nat) (f : Nat → Int) (p : Nat → Nat) (e : Ending) (w' : World) : Prop :=
  ∃ v, e = .returned v ∧ (∃ G : Nat → Value, OwnRow w' w.heap.size 3 1 v n G ∧ ∀ k, k < n → G k = .int .i64 (f (p k))) ∧ Below w.heap.size w w'

theorem ordered_swap (v : Array Value) (w : World) : (method 266 62 (.agg v) "Swap").run Try.prog w = .ok (173, .agg v) w := by kernel_rfl
theorem ordered_es : ∀ args w, (callFunc 173 args).run Try.prog w = .ok (.enter 173 args) w := enters_of Try.func173 (by kernel_rfl) rfl

/-- ordered over a row of its own, as a value with Less and Swap. -/
theorem orderedS (sz : Int) (A : Option Addr) (m c B : Nat) (gb : Nat → Bool) (g n cap len : Nat) (f : Nat → Int) (G : Nat → Value) (T : Nat → Nat → Bool) (w0 : World) (hsz : I64 sz) (hm : m ≤ 140737488351232) (hB : B ≤ g) (hrd : Rd w0 B Value.bool A m gb)
    (hf64 : ∀ i, I64 (f i)) (hn : n ≤ 1152921504606846975) (hT : ∀ i j, i < n → j < n → T i j = relB sz m gb (f i) (f j)) :
    IfaceS (tabM T) (fun _ => True) (fun p w => RowP w0 g 3 n len (fun k => .int .i64 (f k)) G p w ∧ PermN n p) 62 (.agg #[.slice (some ⟨g, 0, none⟩) n cap, .int .i64 sz, .slice A m c]) 172 173 n where
  guard := tabM_guard T
  hn := hn
  mL := ordered_less _
  mS := ordered_swap _
  eL := ordered_el
  eS := ordered_es
  less := fun p w i j hi hj hR _ => by
    have hgB : g < w.heap.size := hR.1.lt
    refine (orderedLess (some ⟨g, 0, none⟩) n cap sz A m c i j B w.heap.size gb (fun k => f (p k)) w hsz hm (by omega) (hrd.keep hR.1.1 hB) (fun k => hf64 _) (by omega) (Nat.le_refl _)
      (fun _ => ⟨g, 0, rfl, hgB, fun k hk => by rw [Nat.zero_add]; exact hR.1.cell hk⟩) hi hj).mono fun e w' h => ⟨?_, hR.1.keep h.2, hR.2⟩
    rw [h.1]
    show _ = Ending.returned (.bool (T (p i) (p j)))
    rw [hT _ _ (hR.2.1 i hi) (hR.2.1 j hj)]
  swap := fun p w i j hi hj hR _ => by
    refine (orderedSwap g n cap sz A m c i j (f (p i)) (f (p j)) w (by omega) hi hj hR.1.lt (hR.1.cell hi) (hR.1.cell hj) (hR.1.frozen i) (hR.1.frozen j)).mono fun e w' h => ⟨h.1, ?_, permN_swap hR.2 hi hj⟩
    obtain ⟨q, o, rfl⟩ := h.2
    exact ((hR.1.keep ((Below.refl w.heap.size w).alloc (Nat.le_refl _) o)).swap hi hj).drewN q

set_option maxHeartbeats 2000000 in
theorem implSortStableByOrder (sz : Int) (A : Option Addr) (m c B : Nat) (gb : Nat → Bool) (A' : Option Addr) (n c' B' : Nat) (f : Nat → Int) (T : Nat → Nat → Bool) (w : World) (hsz : I64 sz) (hm : m ≤ 140737488351232) (hB : B ≤ w.heap.size) (hrd : Rd w B Value.bool A m gb)
    (hf64 : ∀ i, I64 (f i)) (hn : n * 8 ≤ 140737488351232) (hB' : B' ≤ w.heap.size) (hrd' : Rd w B' (Value.int .i64) A' n f) (hT : ∀ i j, i < n → j < n → T i j = relB sz m gb (f i) (f j)) :
    Calls Try.prog 25 #[.slice A' n c', .agg #[.int .i64 sz, .slice A m c]] w (OutP w n f (stable (tabM T) n fun k => k)) := by
  have HNu := Lib.hid (numbers A' n c' B' f (w.alloc (.cells #[.int .i64 sz, .slice A m c] 33)) hn (hrd'.alloc hB' _))
  have H0 := Lib.hid (BoxInv.first w sz A m c 33)
  have HSt := Lib.hid (fun (w1 : World) (g cap : Nat) (G : Nat → Value) (hb : Below w.heap.size w w1) (hg : w.heap.size ≤ g) (hr : w1.rowIs g 3 (cap * 1) G) (hnc : n ≤ cap) (hG : ∀ k, k < n → G k = .int .i64 (f k)) =>
    sortStable (orderedS sz A m c B gb g n cap (cap * 1) f G T w1 hsz hm (by omega) (hrd.keep hb hB) hf64 (by omega) hT) 171 (ordered_len _) ordered_en (fun k => k) (fun k => k) w1
      ((orderedLen (some ⟨g, 0, none⟩) n cap sz A m c w1).mono fun e w2 h => ⟨h.1, RowP.keep ⟨Below.refl _ _, hr.lt, by omega, hr.congr fun k _ => by
        by_cases hk : k < n
        · rw [if_pos hk, hG k hk]
        · rw [if_neg hk]⟩ h.2, permN_id n⟩) trivial)
  have HSn := Lib.hid (fun (w1 : World) (cap : Nat) (h0 : n = 0) =>
    sortStable (T := 62) (rv := .agg #[.slice none 0 cap, .int .i64 sz, .slice A m c]) (gl := 172) (gs := 173) (n := 0) (M := tabM T) (ok := fun _ => True) (R := fun _ w2 => Below w1.heap.size w1 w2)
      ⟨tabM_guard T, by omega, ordered_less _, ordered_swap _, ordered_el, ordered_es, fun _ _ i _ hi => absurd hi (Nat.not_lt_zero _), fun _ _ i _ hi => absurd hi (Nat.not_lt_zero _)⟩ 171 (ordered_len _) ordered_en (fun k => k) (fun k => k) w1
      ((orderedLen none 0 cap sz A m c w1).mono fun e w2 h => ⟨h.1, h.2⟩) trivial)
  clear hrd hrd' hB hB' hf64 hsz hT
  go_enter Try.func25, Try.ntmps25
  go_wp2_with fail
  refine HNu.out.mono ?_
  rintro e w1 ⟨v1, rfl, ⟨G, hG, hF⟩, hb1⟩
  have H1 := Lib.hid (H0.out.step hb1)
  have p0 := H1.out.c0
  have p1 := H1.out.c1
  have hbs : w.heap.size ≤ (w.alloc (.cells #[.int .i64 sz, .slice A m c] 33)).heap.size := by simp
  rcases hG with ⟨rfl, h0⟩ | ⟨g, cap, rfl, hg, hnc, hr⟩
  · have HC := Lib.hid (HSn.out w1 0 h0)
    have H0n := Lib.hid h0
    clear h0 hF hb1 HSn HSt HNu hbs
    go_wp2_with fail
    refine HC.out.mono ?_
    rintro e w2 ⟨rfl, hb2⟩
    have HB2 := Lib.hid (H1.out.bel.trans (hb2.mono H1.out.bel.size)); clear hb2
    go_wp2_with fail
    go_ret
    exact ⟨_, rfl, ⟨fun _ => .bool false, .inl ⟨rfl, H0n.out⟩, fun k hk => absurd hk (by rw [H0n.out]; omega)⟩, HB2.out⟩
  · have HC := Lib.hid (HSt.out w1 g cap G H1.out.bel (Nat.le_trans hbs hg) hr hnc (fun k hk => hF k (by omega)))
    have HGg := Lib.hid (And.intro (Nat.le_trans hbs hg) hnc)
    clear hF hb1 HSn HSt HNu hbs hg hnc hr
    go_wp2_with fail
    refine HC.out.mono ?_
    rintro e w2 ⟨rfl, hR2⟩
    have HR2 := Lib.hid hR2; clear hR2
    go_wp2_with fail
    go_ret
    refine ⟨_, rfl, ⟨fun k => if k < n then .int .i64 (f (stable (tabM T) n (fun k => k) k)) else G k, .inr ⟨g, cap, rfl, HGg.out.1, HGg.out.2, HR2.out.1.2.2.2⟩, fun k hk => if_pos hk⟩, H1.out.bel.trans (HR2.out.1.1.mono HGg.out.1)⟩
end Go.Proofs.Ytjammaglboehcaa
