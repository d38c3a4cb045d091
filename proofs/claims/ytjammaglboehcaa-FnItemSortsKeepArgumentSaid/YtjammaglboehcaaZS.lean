/-
  Several texts of the walk or of the plain theory in one: StSl, StSl2.
-/
import Derived.Test.YtjammaglboehcaaZF
import Derived.Test.YtjammaglboehcaaStKy
import Derived.Lib.ReflectliteSwap
import Derived.Laws.Externs
namespace Go.Proofs.Ytjammaglboehcaa
open Go.RowKit Go.Proofs Go.Lib
set_option linter.unusedVariables false

set_option maxHeartbeats 1000000 in
theorem sliceLess (g n cap Bs i j : Nat) (x y : Int) (w : World) (hn : n ≤ 4611686018427387903) (hi : i < n) (hj : j < n) (hs : w.cell? ⟨Bs, 0, none⟩ = some (.slice (some ⟨g, 0, none⟩) n cap)) (hx : w.cell? ⟨g, i * 2, none⟩ = some (.int .i64 x)) (hy : w.cell? ⟨g, j * 2, none⟩ = some (.int .i64 y)) :
    Calls Try.prog 41 (#[.int .i64 i, .int .i64 j] ++ #[.pointer (some ⟨Bs, 0, none⟩)]) w fun e w' => e = .returned (.bool (decide (x < y))) ∧ ∃ q, w' = w.drewN q := by
  have hil : (i : Int) < (n : Int) := by omega
  have hjl : (j : Int) < (n : Int) := by omega
  go_enter Try.func41, Try.ntmps41
  go_wp2_with fail
  go_quiet (fail)
  go_wp2_with fail
  go_ret
  exact ⟨rfl, nq, rfl⟩
theorem sliceLess_en : ∀ args w, (callFunc 41 args).run Try.prog w = .ok (.enter 41 args) w := enters_of Try.func41 (by kernel_rfl) rfl

/-- The literal that exchanges, by the length. -/
def swNo (n : Nat) : Nat := if n = 0 then 91 else if n = 1 then 92 else 99
def swB (n : Nat) (v h : Value) : Array Value := if n ≤ 1 then #[] else #[v, h]

theorem swap_run (g n cap i j : Nat) (x1 x2 y1 y2 : Int) (w : World) (hi : i < n) (hj : j < n)
    (hx1 : w.cell? ⟨g, i * 2, none⟩ = some (.int .i64 x1)) (hx2 : w.cell? ⟨g, i * 2 + 1, none⟩ = some (.int .i64 x2)) (hy1 : w.cell? ⟨g, j * 2, none⟩ = some (.int .i64 y1)) (hy2 : w.cell? ⟨g, j * 2 + 1, none⟩ = some (.int .i64 y2))
    (fr : ∀ k, w.frozen? ⟨g, k, none⟩ = false) (h2 : 2 ≤ n) :
    (callFunc (swNo n) (#[.int .i64 (i : Nat), .int .i64 (j : Nat)] ++ swB n (.slice (some ⟨g, 0, none⟩) n cap) (typeHandle Try.prog 47))).run Try.prog w = .ok (.value (.tuple #[])) (swapW w g i j (x1, x2) (y1, y2)) := by
  obtain ⟨ie, hie, hz0, hz1, hz2⟩ := info_parts infoItem
  unfold swNo swB
  rw [if_neg (by omega), if_neg (by omega), if_neg (by omega)]
  rw [run_callFunc_extern Try.func99 (by kernel_rfl) (by kernel_rfl) (by kernel_rfl) (e := Extern.ReflectliteSwapper.swap false) (by kernel_rfl)]
  have hs : ie.size = 2 := hz1
  have := run_swap_cells (P := Try.prog) false 47 ie hie (fun _ => by kernel_rfl) g 0 n cap i j hi hj [.int .i64 x1, .int .i64 x2] [.int .i64 y1, .int .i64 y2] (by rw [hs]; rfl) (by rw [hs]; rfl) (by simp [Value.oneCell']) (by simp [Value.oneCell']) w
    (fun k v hk => by
      rw [hs, Nat.zero_add]
      match k, hk with
      | 0, hk => rw [← Option.some.inj hk]; exact hx1
      | 1, hk => rw [← Option.some.inj hk]; exact hx2
      | k + 2, hk => simp at hk)
    (fun k v hk => by
      rw [hs, Nat.zero_add]
      match k, hk with
      | 0, hk => rw [← Option.some.inj hk]; exact hy1
      | 1, hk => rw [← Option.some.inj hk]; exact hy2
      | k + 2, hk => simp at hk) (fun k _ => fr _) (fun k _ => fr _)
  rw [show (#[Value.int .i64 (i : Int), Value.int .i64 (j : Int)] ++ #[Value.slice (some ⟨g, 0, none⟩) n cap, typeHandle Try.prog 47]) = #[.int .i64 i, .int .i64 j, .slice (some ⟨g, 0, none⟩) n cap, typeHandle Try.prog 47] from rfl, this, hs, Nat.zero_add, Nat.zero_add]
  rfl
theorem swap_run1 (w : World) (v h : Value) : (callFunc (swNo 1) (#[.int .i64 (0 : Nat), .int .i64 (0 : Nat)] ++ swB 1 v h)).run Try.prog w = .ok (.value (.tuple #[])) w := by
  show (callFunc 92 #[.int .i64 0, .int .i64 0]).run Try.prog w = _
  rw [run_callFunc_extern Try.func92 (by kernel_rfl) (by kernel_rfl) (by kernel_rfl) (e := (Extern.ReflectliteSwapper.rows[2]!).2) (by kernel_rfl)]
  rfl

/-- Items in a row of their own, and a variable that holds the slice. -/
def RowSl (w0 : World) (g n cap len Bs : Nat) (f : Nat → Int × Int) (G : Nat → Value) (p : Nat → Nat) (w : World) : Prop :=
  RowPI w0 g 47 n len f G p w ∧ w.cell? ⟨Bs, 0, none⟩ = some (.slice (some ⟨g, 0, none⟩) n cap)

theorem far_drewN (g : Nat) (w : World) (q : Nat) : Far g w (w.drewN q) := ⟨Nat.le_refl _, fun _ _ _ => rfl⟩
theorem far_swapW (w : World) (g i j : Nat) (x y : Int × Int) : Far g w (swapW w g i j x y) := by
  unfold swapW
  refine ⟨by simp [World.setCell], fun b hb _ => ?_⟩
  rw [heap_setCell_other _ _ _ _ (by simpa using hb), heap_setCell_other _ _ _ _ (by simpa using hb), heap_setCell_other _ _ _ _ (by simpa using hb), heap_setCell_other _ _ _ _ (by simpa using hb)]

theorem sliceS (g n cap len Bs : Nat) (f : Nat → Int × Int) (G : Nat → Value) (w0 : World) (hn : n ≤ 1152921504606846975) (hne : Bs ≠ g) (hn1 : 1 ≤ n) :
    FuncS (tabM (keyT f)) (fun _ => True) (RowSl w0 g n cap len Bs f G) 41 #[.pointer (some ⟨Bs, 0, none⟩)] (swNo n) (swB n (.slice (some ⟨g, 0, none⟩) n cap) (typeHandle Try.prog 47)) g n where
  guard := tabM_guard _
  hn := hn
  hg := fun p w h => h.1.lt
  alloc := fun p w o h => ⟨h.1.keep ((Below.refl _ _).alloc (Nat.le_refl _) o), cell_alloc _ h.2⟩
  eL := sliceLess_en
  lessF := fun p w i j hi hj hR _ => (sliceLess g n cap Bs i j _ _ w (by omega) hi hj hR.2 (hR.1.cell1 hi) (hR.1.cell1 hj)).mono fun e w' h => by
    obtain ⟨q, rfl⟩ := h.2
    exact ⟨⟨h.1, hR.1.drewN q, hR.2⟩, far_drewN g w q⟩
  swapF := fun p w i j hi hj hR _ => by
    by_cases h2 : 2 ≤ n
    · refine ⟨_, swap_run g n cap i j _ _ _ _ w hi hj (hR.1.cell1 hi) (hR.1.cell2 hi) (hR.1.cell1 hj) (hR.1.cell2 hj) hR.1.frozen h2, ⟨hR.1.swap hi hj, ?_⟩, far_swapW _ _ _ _ _ _⟩
      have := (far_swapW w g i j (f (p i)) (f (p j))).2 Bs hne (World.block_lt_of_cell? _ _ hR.2)
      have h3 := hR.2
      simp only [World.cell?] at h3 ⊢
      rw [this]; exact h3
    · obtain rfl : n = 1 := by omega
      obtain rfl : i = 0 := by omega
      obtain rfl : j = 0 := by omega
      refine ⟨w, swap_run1 w _ _, ⟨⟨hR.1.1, hR.1.2.1, hR.1.2.2.1, hR.1.2.2.2.congr fun k hk => ?_⟩, hR.2⟩, Nat.le_refl _, fun _ _ _ => rfl⟩
      by_cases hk2 : k < 1 * 2
      · rw [if_pos hk2, if_pos hk2]
        unfold cellI
        have : k / 2 = 0 := by omega
        simp only [this]
        rfl
      · rw [if_neg hk2, if_neg hk2]
end Go.Proofs.Ytjammaglboehcaa

namespace Go.Proofs.Ytjammaglboehcaa
open Go.RowKit Go.Proofs Go.Lib
set_option linter.unusedVariables false

theorem descSl : (Try.prog.info? 23).map (fun i => i.desc) = some (.slice 47) := by kernel_rfl
theorem ptrIt : (Try.prog.info? 47).map (fun i => (i.hasPointers, i.bytes)) = some (false, 16) := by kernel_rfl

theorem swapperK_it {ie : TypeInfo} (hie : Try.prog.info? 47 = some ie) (n : Nat) : swapperK n ie 25 = if n = 0 then 1 else if n = 1 then 2 else 9 := by
  have h := ptrIt
  rw [hie] at h
  simp only [Option.map_some, Option.some.injEq, Prod.mk.injEq] at h
  unfold swapperK
  rw [h.1, h.2]
  by_cases h0 : n = 0
  · subst h0; rfl
  · by_cases h1 : n = 1
    · subst h1; rfl
    · have e0 : (n == 0) = false := by simpa using h0
      have e1 : (n == 1) = false := by simpa using h1
      rw [e0, e1, if_neg h0, if_neg h1]; rfl

/-- The memory in which the sort of a lessSwap begins. -/
def slW (w : World) (p : Option Addr) (n c : Nat) (h : Value) : World :=
  (w.alloc (.cells #[.slice p n c] 23)).alloc (.cells #[h, .pointer (some ⟨w.heap.size, 0, none⟩), .int .u64 151] 82)

set_option maxRecDepth 100000 in
set_option maxHeartbeats 4000000 in
theorem sortSliceStable (p : Option Addr) (n c : Nat) (lf : Fn) (la lb : Array Value) (w : World) (Q : World → Prop) (hn : n ≤ 4611686018427387903)
    (hp : Calls Try.prog 65 #[.agg #[.func lf la lb, .func (.func (swNo n)) #[] (swB n (.slice p n c) (typeHandle Try.prog 47))], .int .i64 n] (slW w p n c (typeHandle Try.prog 23)) fun e w' => e = .returned (.tuple #[]) ∧ Q w') :
    Calls Try.prog 40 #[.iface 23 (.slice p n c), .func lf la lb] w fun e w' => e = .returned (.tuple #[]) ∧ Q w' := by
  obtain ⟨i, hi⟩ := Option.isSome_iff_exists.1 (show (Try.prog.info? 23).isSome = true by kernel_rfl)
  obtain ⟨ie, hie⟩ := Option.isSome_iff_exists.1 (show (Try.prog.info? 47).isSome = true by kernel_rfl)
  have hd : i.desc = .slice 47 := by have h := descSl; rw [hi] at h; simpa using h
  have hv := run_valueOf_slice (P := Try.prog) 23 47 i hi hd p n c w
  have hs := fun w => run_swapper_slice (P := Try.prog) 23 47 i ie hi hd hie 25 (fun _ => by kernel_rfl) p n c (swNo n) (by
    rw [swapperK_it hie]
    unfold swNo
    by_cases h0 : n = 0
    · rw [if_pos h0, if_pos h0]; kernel_rfl
    · rw [if_neg h0, if_neg h0]
      by_cases h1 : n = 1
      · rw [if_pos h1, if_pos h1]; kernel_rfl
      · rw [if_neg h1, if_neg h1]; kernel_rfl) w
  have hl := fun a w ha => run_valueLen_slice (P := Try.prog) 23 47 i hi hd (by kernel_rfl) a p n c w ha
  have hsb : (if swapperK n ie 25 ≤ 2 then (#[] : Array Value) else #[.slice p n c, typeHandle Try.prog 47]) = swB n (.slice p n c) (typeHandle Try.prog 47) := by
    rw [swapperK_it hie]
    unfold swB
    by_cases h0 : n = 0
    · rw [if_pos h0, if_pos (by omega), if_pos (by omega)]
    · rw [if_neg h0]
      by_cases h1 : n = 1
      · rw [if_pos h1, if_pos (by omega), if_pos (by omega)]
      · rw [if_neg h1, if_neg (by omega), if_neg (by omega)]
  rw [hsb] at hs
  unfold slW at hp
  generalize swB n (.slice p n c) (typeHandle Try.prog 47) = sb at *
  generalize swNo n = sf at *
  have HP := Lib.hid hp
  have HV := Lib.hid hv; have HS := Lib.hid hs; have HL := Lib.hid hl
  clear hp hv hs hl hsb hd hi hie
  obtain ⟨th, hth⟩ : ∃ th : Addr, typeHandle Try.prog 23 = .pointer (some th) := ⟨_, rfl⟩
  rw [hth] at HV HL HP
  clear hth
  go_enter Try.func40, Try.ntmps40
  go_wp2_with fail
  rw [run_callFunc_extern Try.func63 (by kernel_rfl) (by kernel_rfl) (by kernel_rfl) (e := fun args => Extern.ReflectliteValue.unpack (args.getD 0 (.tuple #[]))) (by kernel_rfl),
    show Sem.run Try.prog ((fun args : Array Value => Extern.ReflectliteValue.unpack (args.getD 0 (.tuple #[]))) #[.iface 23 (.slice p n c)]) w = _ from HV.out]
  simp only [Result.andThen]
  rw [Oper.upon_value]
  go_wp2_with fail
  rw [run_callFunc_extern Try.func64 (by kernel_rfl) (by kernel_rfl) (by kernel_rfl) (e := (Extern.ReflectliteSwapper.rows[0]!).2) (by kernel_rfl), show Sem.run Try.prog ((Extern.ReflectliteSwapper.rows[0]!).2 #[.iface 23 (.slice p n c)]) _ = _ from HS.out _]
  simp only [Result.andThen]
  rw [Oper.upon_value]
  go_wp2_with fail
  rw [run_callFunc_extern Try.func66 (by kernel_rfl) (by kernel_rfl) (by kernel_rfl) (e := Extern.ReflectliteValue.method (Extern.ReflectliteValue.valueError "reflectlite.Value.Len" 0) Extern.ReflectliteValue.len) (by kernel_rfl),
    HL.out _ _ (by simp)]
  simp only [Result.andThen]
  rw [Oper.upon_value]
  go_wp2_with fail
  refine HP.out.mono ?_
  rintro e w1 ⟨rfl, hq⟩
  have HQ := Lib.hid hq; clear hq
  go_wp2_with fail
  go_end0
  exact ⟨rfl, HQ.out⟩

/-- No element: nothing is asked. -/
theorem sliceS0 (f : Nat → Int × Int) (w3 : World) (h3 : 0 < w3.heap.size) (lb sb : Array Value) (gs : Nat) : FuncS (tabM (keyT f)) (fun _ => True) (fun _ w' => Below w3.heap.size w3 w') 41 lb gs sb 0 0 where
  guard := tabM_guard _
  hn := by omega
  hg := fun _ w h => Nat.lt_of_lt_of_le h3 h.size
  alloc := fun _ w o h => h.alloc h.size o
  eL := sliceLess_en
  lessF := fun _ _ i _ hi => absurd hi (Nat.not_lt_zero _)
  swapF := fun _ _ i _ hi => absurd hi (Nat.not_lt_zero _)

set_option maxHeartbeats 4000000 in
theorem implSliceStableItems (A : Option Addr) (n c B : Nat) (f : Nat → Int × Int) (w : World) (hn : n * 16 ≤ 140737488351232) (hrd : RdI w B A n f) :
    Calls Try.prog 16 #[.slice A n c] w (OutPI w n f (stable (tabM (keyT f)) n fun k => k)) := by
  have HNu := Lib.hid (items A n c B f w hn hrd)
  clear hrd
  go_enter Try.func16, Try.ntmps16
  go_wp2_with fail
  refine HNu.out.mono ?_
  rintro e w1 ⟨v1, rfl, ⟨G, hG, hF⟩, hb1⟩
  have H1 := Lib.hid hb1
  clear HNu hb1
  by_cases h0 : n = 0
  · obtain ⟨p, c1, rfl⟩ : ∃ p c1, v1 = .slice p 0 c1 := by
      rcases hG with ⟨rfl, _⟩ | ⟨g, cap, rfl, _⟩
      · exact ⟨none, 0, rfl⟩
      · exact ⟨_, cap, by rw [h0]⟩
    have HGn := Lib.hid hG
    have HFn := Lib.hid hF
    have H0 := Lib.hid h0
    have HC := Lib.hid (sortSliceStable p 0 c1 (.func 41) #[] #[.pointer (some ⟨w1.heap.size, 0, none⟩)] (w1.alloc (.cells #[.slice p 0 c1] 23)) _ (by omega)
      ((stableF (sliceS0 f (slW (w1.alloc (.cells #[.slice p 0 c1] 23)) p 0 c1 (typeHandle Try.prog 23)) (by unfold slW; simp) _ _ _) (fun k => k) _ (Below.refl _ _) trivial).mono fun e w' h => ⟨h.1, h.2⟩))
    have HW := Lib.hid (show Below w1.heap.size w1 (slW (w1.alloc (.cells #[.slice p 0 c1] 23)) p 0 c1 (typeHandle Try.prog 23)) from (((Below.refl _ _).alloc (Nat.le_refl _) _).alloc (by simp) _).alloc (by simp; omega) _)
    have HCl := Lib.hid (show (slW (w1.alloc (.cells #[.slice p 0 c1] 23)) p 0 c1 (typeHandle Try.prog 23)).cell? ⟨w1.heap.size, 0, none⟩ = some (.slice p 0 c1) from cell_alloc _ (cell_alloc _ (cell_new _ _ _)))
    generalize slW (w1.alloc (.cells #[.slice p 0 c1] 23)) p 0 c1 (typeHandle Try.prog 23) = V at *
    clear hG hF h0
    go_wp2_with fail
    refine HC.out.mono ?_
    rintro e w2 ⟨rfl, hb2⟩
    have hcl : w2.cell? ⟨w1.heap.size, 0, none⟩ = some (.slice p 0 c1) := (hb2.cell (p := ⟨w1.heap.size, 0, none⟩) (World.block_lt_of_cell? _ _ HCl.out)).trans HCl.out
    have HB12 := Lib.hid (HW.out.trans (hb2.mono HW.out.size)); clear hb2
    go_wp2_with fail
    go_ret
    exact ⟨_, rfl, ⟨G, HGn.out.keep HB12.out, fun k hk => absurd hk (by rw [H0.out]; omega)⟩, H1.out.trans (HB12.out.mono H1.out.size)⟩
  · rcases hG with ⟨_, h00⟩ | ⟨g, cap, rfl, hg, hnc, hr⟩
    · exact absurd h00 h0
    have hgl := hr.lt
    have hR0 : RowPI w1 g 47 n (cap * 2) f G (fun k => k) w1 := ⟨Below.refl _ _, hr.lt, by omega, hr.congr fun k _ => by
      by_cases hk : k < n * 2
      · rw [if_pos hk, hF k hk]
      · rw [if_neg hk]⟩
    have hR1 : RowSl w1 g n cap (cap * 2) w1.heap.size f G (fun k => k) (slW (w1.alloc (.cells #[.slice (some ⟨g, 0, none⟩) n cap] 23)) (some ⟨g, 0, none⟩) n cap (typeHandle Try.prog 23)) :=
      ⟨((hR0.keep ((Below.refl _ _).alloc (Nat.le_refl _) _)).keep ((Below.refl _ _).alloc (Nat.le_refl _) _)).keep ((Below.refl _ _).alloc (Nat.le_refl _) _), cell_alloc _ (cell_alloc _ (cell_new _ _ _))⟩
    have HC := Lib.hid (sortSliceStable (some ⟨g, 0, none⟩) n cap (.func 41) #[] #[.pointer (some ⟨w1.heap.size, 0, none⟩)] (w1.alloc (.cells #[.slice (some ⟨g, 0, none⟩) n cap] 23)) _ (by omega)
      ((stableF (sliceS g n cap (cap * 2) w1.heap.size f G w1 (by omega) (by omega) (by omega)) (fun k => k) _ hR1 trivial).mono fun e w' h => ⟨h.1, h.2⟩))
    have HGg := Lib.hid (And.intro hg hnc)
    clear hF hg hnc hr hR0 hR1 hgl h0
    go_wp2_with fail
    refine HC.out.mono ?_
    rintro e w2 ⟨rfl, hR2⟩
    have hcl := hR2.2
    have HR2 := Lib.hid hR2; clear hR2
    go_wp2_with fail
    go_ret
    refine ⟨_, rfl, ⟨_, .inr ⟨g, cap, rfl, HGg.out.1, HGg.out.2, HR2.out.1.2.2.2⟩, fun k hk => if_pos hk⟩, H1.out.trans (HR2.out.1.1.mono HGg.out.1)⟩
end Go.Proofs.Ytjammaglboehcaa
