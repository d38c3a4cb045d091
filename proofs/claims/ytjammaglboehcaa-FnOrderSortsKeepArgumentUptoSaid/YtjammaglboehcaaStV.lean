/-
  The walks of impl.StableByOrder and impl.StableItems (slices.SortStableFunc).
-/
import Derived.Test.YtjammaglboehcaaZN
import Derived.Test.YtjammaglboehcaaZT
import Derived.Test.YtjammaglboehcaaStOr
import Derived.Test.YtjammaglboehcaaStKy
import Derived.Test.YtjammaglboehcaaOrd2
import Derived.Test.YtjammaglboehcaaCmpI
namespace Go.Proofs.Ytjammaglboehcaa
open Go.RowKit Go.Proofs
set_option linter.unusedVariables false

/-! ### No element -/
set_option maxHeartbeats 1000000 in
theorem insNilN (cap : Nat) (fv : Value) (w : World) : Calls Try.prog 111 #[.slice none 0 cap, .int .i64 (0 : Nat), .int .i64 (0 : Nat), fv] w fun e w' => e = .returned (.tuple #[]) ∧ w = w' := by
  go_enter Try.func111, Try.ntmps111
  go_wp2_with fail
  refine wp_loop_rounds 1 ?_
  rw [rounds_succ]
  go_wp2_with fail
  go_end0
  exact ⟨rfl, rfl⟩
set_option maxHeartbeats 1000000 in
theorem insNilT (cap : Nat) (fv : Value) (w : World) : Calls Try.prog 71 #[.slice none 0 cap, .int .i64 (0 : Nat), .int .i64 (0 : Nat), fv] w fun e w' => e = .returned (.tuple #[]) ∧ w = w' := by
  go_enter Try.func71, Try.ntmps71
  go_wp2_with fail
  refine wp_loop_rounds 1 ?_
  rw [rounds_succ]
  go_wp2_with fail
  go_end0
  exact ⟨rfl, rfl⟩
set_option maxHeartbeats 1000000 in
theorem stableNilN (cap : Nat) (fv : Value) (w : World) : Calls Try.prog 70 #[.slice none 0 cap, .int .i64 (0 : Nat), fv] w fun e w' => e = .returned (.tuple #[]) ∧ w = w' := by
  have HI := Lib.hid (insNilN cap fv w)
  go_enter Try.func70, Try.ntmps70
  go_wp2_with fail
  refine wp_loop_rounds 1 ?_
  rw [rounds_succ]
  go_wp2_with fail
  refine HI.out.mono ?_
  rintro e w1 ⟨rfl, rfl⟩
  go_wp2_with fail
  refine wp_loop_rounds 1 ?_
  rw [rounds_succ]
  go_wp2_with fail
  go_end0
  exact ⟨rfl, rfl⟩
set_option maxHeartbeats 1000000 in
theorem stableNilT (cap : Nat) (fv : Value) (w : World) : Calls Try.prog 61 #[.slice none 0 cap, .int .i64 (0 : Nat), fv] w fun e w' => e = .returned (.tuple #[]) ∧ w = w' := by
  have HI := Lib.hid (insNilT cap fv w)
  go_enter Try.func61, Try.ntmps61
  go_wp2_with fail
  refine wp_loop_rounds 1 ?_
  rw [rounds_succ]
  go_wp2_with fail
  refine HI.out.mono ?_
  rintro e w1 ⟨rfl, rfl⟩
  go_wp2_with fail
  refine wp_loop_rounds 1 ?_
  rw [rounds_succ]
  go_wp2_with fail
  go_end0
  exact ⟨rfl, rfl⟩

/-! ### slices.SortStableFunc -/
def STABLEN : Nat := 70
def STABLET : Nat := 61
set_option maxHeartbeats 1000000 in
theorem sortStableFuncN {Q : Ending → World → Prop} (v : Option Addr) (n cap : Nat) (fv : Value) (w : World) (hn : n ≤ 4611686018427387903) (hS : Calls Try.prog (STABLEN) #[.slice v n cap, .int .i64 n, fv] w fun e w' => e = .returned (.tuple #[]) ∧ Q e w') :
    Calls Try.prog 50 #[.slice v n cap, fv] w fun e w' => e = .returned (.tuple #[]) ∧ Q e w' := by
  have HS := Lib.hid hS; clear hS
  go_enter Try.func50, Try.ntmps50
  go_wp2_with fail
  refine HS.out.mono ?_
  rintro e w1 ⟨rfl, hq⟩
  have HQ := Lib.hid hq; clear hq
  go_wp2_with fail
  go_end0
  exact ⟨rfl, HQ.out⟩
set_option maxHeartbeats 1000000 in
theorem sortStableFuncT {Q : Ending → World → Prop} (v : Option Addr) (n cap : Nat) (fv : Value) (w : World) (hn : n ≤ 4611686018427387903) (hS : Calls Try.prog (STABLET) #[.slice v n cap, .int .i64 n, fv] w fun e w' => e = .returned (.tuple #[]) ∧ Q e w') :
    Calls Try.prog 38 #[.slice v n cap, fv] w fun e w' => e = .returned (.tuple #[]) ∧ Q e w' := by
  have HS := Lib.hid hS; clear hS
  go_enter Try.func38, Try.ntmps38
  go_wp2_with fail
  refine HS.out.mono ?_
  rintro e w1 ⟨rfl, hq⟩
  have HQ := Lib.hid hq; clear hq
  go_wp2_with fail
  go_end0
  exact ⟨rfl, HQ.out⟩

theorem signI_neg {r : Int → Int → Bool} (a b : Int) : decide (signI r a b < 0) = r a b := by
  unfold signI
  cases h1 : r a b
  · cases h2 : r b a <;> simp
  · simp
theorem byOrderT_en : ∀ args w, (callFunc 51 args).run Try.prog w = .ok (.enter 51 args) w := enters_of Try.func51 (by kernel_rfl) rfl

/-- Numbers in a row of their own, compared by a relation in a box. -/
theorem orderN (sz : Int) (A : Option Addr) (m c B : Nat) (gb : Nat → Bool) (bx g n cap len : Nat) (f : Nat → Int) (G : Nat → Value) (T : Nat → Nat → Bool) (w0 : World) (hsz : I64 sz) (hm : m ≤ 140737488351232) (hB : B ≤ g) (hrd : Rd w0 B Value.bool A m gb) (hbx : bx < g) (hob : OrdBox w0 bx sz A m c)
    (hf64 : ∀ i, I64 (f i)) (hn : n ≤ 1152921504606846975) (hT : ∀ i j, i < n → j < n → T i j = relB sz m gb (f i) (f j)) :
    CmpN (tabM T) (fun _ => True) (fun p w => RowP w0 g 3 n len (fun k => .int .i64 (f k)) G p w ∧ PermN n p) (fun p i => f (p i)) g cap 51 #[.pointer (some ⟨bx, 0, none⟩)] n where
  guard := tabM_guard T
  hn := hn
  eC := byOrderT_en
  drew := fun p w q h => ⟨h.1.drewN q, h.2⟩
  cell := fun p w i hi h => ⟨h.1.cell hi, h.1.frozen i⟩
  cmp := fun p w i j hi hj hR _ => by
    refine (byOrderT sz (f (p i)) (f (p j)) A m c B bx gb w hsz (hf64 _) (hf64 _) hm (Nat.le_trans hB (Nat.le_of_lt hR.1.lt)) (hrd.keep hR.1.1 hB) ⟨(hR.1.1.cell (p := ⟨bx, 0, none⟩) hbx).trans hob.1, (hR.1.1.cell (p := ⟨bx, 1, none⟩) hbx).trans hob.2⟩).mono fun e w' h => ⟨_, h.1, ?_, hR.1.keep h.2, hR.2⟩
    rw [signI_neg]
    show _ = T (p i) (p j)
    rw [hT _ _ (hR.2.1 i hi) (hR.2.1 j hj)]
  swap := fun p w i j hi hj hR _ => ⟨hR.1.swap hi hj, permN_swap hR.2 hi hj⟩

set_option maxHeartbeats 2000000 in
theorem implStableByOrder (sz : Int) (A : Option Addr) (m c B : Nat) (gb : Nat → Bool) (A' : Option Addr) (n c' B' : Nat) (f : Nat → Int) (T : Nat → Nat → Bool) (w : World) (hsz : I64 sz) (hm : m ≤ 140737488351232) (hB : B ≤ w.heap.size) (hrd : Rd w B Value.bool A m gb)
    (hf64 : ∀ i, I64 (f i)) (hn : n * 8 ≤ 140737488351232) (hB' : B' ≤ w.heap.size) (hrd' : Rd w B' (Value.int .i64) A' n f) (hT : ∀ i j, i < n → j < n → T i j = relB sz m gb (f i) (f j)) :
    Calls Try.prog 24 #[.slice A' n c', .agg #[.int .i64 sz, .slice A m c]] w (OutP w n f (stable (tabM T) n fun k => k)) := by
  have HNu := Lib.hid (numbers A' n c' B' f (w.alloc (.cells #[.int .i64 sz, .slice A m c] 33)) hn (hrd'.alloc hB' _))
  have H0 := Lib.hid (BoxInv.first w sz A m c 33)
  have HSt := Lib.hid (fun (w1 : World) (g cap : Nat) (G : Nat → Value) (hI : BoxInv w sz A m c w1) (hg : w.heap.size < g) (hr : w1.rowIs g 3 (cap * 1) G) (hnc : n ≤ cap) (hG : ∀ k, k < n → G k = .int .i64 (f k)) =>
    sortStableFuncN (some ⟨g, 0, none⟩) n cap _ w1 (by omega)
      ((stableN (orderN sz A m c B gb w.heap.size g n cap (cap * 1) f G T w1 hsz hm (by omega) (hrd.keep hI.bel hB) hg ⟨hI.c0, hI.c1⟩ hf64 (by omega) hT) (fun k => k) w1
        ⟨⟨Below.refl _ _, hr.lt, by omega, hr.congr fun k _ => by
          by_cases hk : k < n
          · rw [if_pos hk, hG k hk]
          · rw [if_neg hk]⟩, permN_id n⟩ trivial).mono fun e w2 h => ⟨h.1, h⟩))
  have HSn := Lib.hid (fun (w1 : World) (fv : Value) => sortStableFuncN (Q := fun _ w' => w1 = w') none 0 0 fv w1 (by omega) ((stableNilN 0 fv w1).mono fun e w' h => h))
  clear hrd hrd' hB hB' hf64 hsz hT
  go_enter Try.func24, Try.ntmps24
  go_wp2_with fail
  refine HNu.out.mono ?_
  rintro e w1 ⟨v1, rfl, ⟨G, hG, hF⟩, hb1⟩
  have H1 := Lib.hid (H0.out.step hb1)
  have p0 := H1.out.c0
  have p1 := H1.out.c1
  have hbs : (w.alloc (.cells #[.int .i64 sz, .slice A m c] 33)).heap.size = w.heap.size + 1 := by simp
  rcases hG with ⟨rfl, h0⟩ | ⟨g, cap, rfl, hg, hnc, hr⟩
  · have HC := Lib.hid (HSn.out w1)
    have H0n := Lib.hid h0
    clear h0 hF hb1 HSn HSt HNu hbs
    go_wp2_with fail
    refine (HC.out _).mono ?_
    rintro e w2 ⟨rfl, rfl⟩
    go_wp2_with fail
    go_ret
    exact ⟨_, rfl, ⟨fun _ => .bool false, .inl ⟨rfl, H0n.out⟩, fun k hk => absurd hk (by rw [H0n.out]; omega)⟩, H1.out.bel⟩
  · have hg2 : w.heap.size < g := by omega
    have HC := Lib.hid (HSt.out w1 g cap G H1.out hg2 hr hnc (fun k hk => hF k (by omega)))
    have HGg := Lib.hid (And.intro (Nat.le_of_lt hg2) hnc)
    clear hF hb1 HSn HSt HNu hbs hg hnc hr hg2
    go_wp2_with fail
    refine HC.out.mono ?_
    rintro e w2 ⟨rfl, _, hR2⟩
    have HR2 := Lib.hid hR2; clear hR2
    go_wp2_with fail
    go_ret
    refine ⟨_, rfl, ⟨fun k => if k < n then .int .i64 (f (stable (tabM T) n (fun k => k) k)) else G k, .inr ⟨g, cap, rfl, HGg.out.1, HGg.out.2, HR2.out.1.2.2.2⟩, fun k hk => if_pos hk⟩, H1.out.bel.trans (HR2.out.1.1.mono HGg.out.1)⟩

set_option maxHeartbeats 1000000 in
theorem byKey (x y : Int × Int) (w : World) : Calls Try.prog 36 #[.agg #[.int .i64 x.1, .int .i64 x.2], .agg #[.int .i64 y.1, .int .i64 y.2]] w fun e w' => e = .returned (.int .i64 (cmpI x.1 y.1)) ∧ Below w.heap.size w w' := by
  have HC := Lib.hid (fun w' => compare x.1 y.1 w')
  have HB := Lib.hid (fun o o' => ((Below.refl w.heap.size w).alloc (Nat.le_refl _) o).alloc (by simp) o')
  generalize cmpI x.1 y.1 = r at *
  go_enter Try.func36, Try.ntmps36
  go_wp2_with fail
  refine (HC.out _).mono ?_
  rintro e w1 ⟨rfl, rfl⟩
  go_wp2_with fail
  go_ret
  exact ⟨rfl, HB.out _ _⟩
theorem byKey_en : ∀ args w, (callFunc 36 args).run Try.prog w = .ok (.enter 36 args) w := enters_of Try.func36 (by kernel_rfl) rfl

/-- Items in a row of their own, compared by keys. -/
theorem keyT_cmp (g n cap len : Nat) (f : Nat → Int × Int) (G : Nat → Value) (w0 : World) (hn : n ≤ 1152921504606846975) :
    CmpT (tabM (keyT f)) (fun _ => True) (fun p w => RowPI w0 g 47 n len f G p w) (fun p i => f (p i)) g cap 36 #[] n where
  guard := tabM_guard _
  hn := hn
  eC := byKey_en
  drew := fun p w q h => h.drewN q
  cell := fun p w i hi h => ⟨h.cell1 hi, h.cell2 hi, h.frozen _, h.frozen _⟩
  cmp := fun p w i j hi hj hR _ => (byKey (f (p i)) (f (p j)) w).mono fun e w' h => ⟨_, h.1, by rw [cmpI_neg]; rfl, hR.keep h.2⟩
  swap := fun p w i j hi hj hR _ => hR.swap hi hj

set_option maxHeartbeats 2000000 in
theorem implStableItems (A : Option Addr) (n c B : Nat) (f : Nat → Int × Int) (w : World) (hn : n * 16 ≤ 140737488351232) (hrd : RdI w B A n f) :
    Calls Try.prog 14 #[.slice A n c] w (OutPI w n f (stable (tabM (keyT f)) n fun k => k)) := by
  have HNu := Lib.hid (items A n c B f w hn hrd)
  have HSt := Lib.hid (fun (w1 : World) (g cap : Nat) (G : Nat → Value) (hr : w1.rowIs g 47 (cap * 2) G) (hnc : n ≤ cap) (hG : ∀ k, k < n * 2 → G k = cellI f k) =>
    sortStableFuncT (some ⟨g, 0, none⟩) n cap _ w1 (by omega)
      ((stableT (keyT_cmp g n cap (cap * 2) f G w1 (by omega)) (fun k => k) w1
        ⟨Below.refl _ _, hr.lt, by omega, hr.congr fun k _ => by
          by_cases hk : k < n * 2
          · rw [if_pos hk, hG k hk]
          · rw [if_neg hk]⟩ trivial).mono fun e w2 h => ⟨h.1, h⟩))
  have HSn := Lib.hid (fun (w1 : World) (fv : Value) => sortStableFuncT (Q := fun _ w' => w1 = w') none 0 0 fv w1 (by omega) ((stableNilT 0 fv w1).mono fun e w' h => h))
  clear hrd
  go_enter Try.func14, Try.ntmps14
  go_wp2_with fail
  refine HNu.out.mono ?_
  rintro e w1 ⟨v1, rfl, ⟨G, hG, hF⟩, hb1⟩
  have H1 := Lib.hid hb1
  rcases hG with ⟨rfl, h0⟩ | ⟨g, cap, rfl, hg, hnc, hr⟩
  · have HC := Lib.hid (HSn.out w1)
    have H0n := Lib.hid h0
    clear h0 hF hb1 HSn HSt HNu
    go_wp2_with fail
    refine (HC.out _).mono ?_
    rintro e w2 ⟨rfl, rfl⟩
    go_wp2_with fail
    go_ret
    exact ⟨_, rfl, ⟨fun _ => .bool false, .inl ⟨rfl, H0n.out⟩, fun k hk => absurd hk (by rw [H0n.out]; omega)⟩, H1.out⟩
  · have HC := Lib.hid (HSt.out w1 g cap G hr hnc hF)
    have HGg := Lib.hid (And.intro hg hnc)
    clear hF hb1 HSn HSt HNu hg hnc hr
    go_wp2_with fail
    refine HC.out.mono ?_
    rintro e w2 ⟨rfl, _, hR2⟩
    have HR2 := Lib.hid hR2; clear hR2
    go_wp2_with fail
    go_ret
    refine ⟨_, rfl, ⟨_, .inr ⟨g, cap, rfl, HGg.out.1, HGg.out.2, HR2.out.2.2.2⟩, fun k hk => if_pos hk⟩, H1.out.trans (HR2.out.1.mono HGg.out.1)⟩
end Go.Proofs.Ytjammaglboehcaa
