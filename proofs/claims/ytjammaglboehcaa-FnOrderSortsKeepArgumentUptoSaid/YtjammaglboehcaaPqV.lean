/-
  impl.SortCalls: the log of the calls that sort.Sort makes.
-/
import Derived.Test.YtjammaglboehcaaStW2
import Derived.Test.YtjammaglboehcaaPqC
namespace Go.Proofs.Ytjammaglboehcaa
open Go.RowKit Go.Proofs
set_option linter.unusedVariables false

/-- The machine of an array under a table that writes down what it was asked for. -/
def logA (T : Nat → Nat → Bool) : Mach (Array Nat × Log) := ⟨fun s i j => T s.1[i]! s.1[j]!, fun s i j => (s.1, s.2 ++ [(2, i, j)]), fun s i j => (Sort.swp s.1 i j, s.2 ++ [(3, i, j)])⟩
theorem logA_arr (T : Nat → Nat → Bool) : ArrV (logA T) T (fun s => s.1) := ⟨fun _ _ _ => rfl, fun _ _ _ => rfl, fun _ _ _ => rfl⟩
def okA (s : Array Nat × Log) : Prop := s.2.length ≤ 5864062014805
theorem logA_guard (T : Nat → Nat → Bool) : Guard (logA T) okA :=
  ⟨fun s i j h => by have h' : (s.2 ++ [(2, i, j)]).length ≤ 5864062014805 := h; rw [List.length_append] at h'; exact Nat.le_of_add_right_le h', fun s i j h => by have h' : (s.2 ++ [(3, i, j)]).length ≤ 5864062014805 := h; rw [List.length_append] at h'; exact Nat.le_of_add_right_le h'⟩
theorem logA_costs (T : Nat → Nat → Bool) : Costs (logA T) (fun s => s.2.length) :=
  ⟨fun s i j => by show (s.2 ++ [(2, i, j)]).length ≤ _; simp, fun s i j => by show (s.2 ++ [(3, i, j)]).length ≤ _; simp⟩
def logA0 (n : Nat) : Array Nat × Log := (idA n, [(1, 0, 0)])
/-- A list of at most 1000: the log stays small. -/
theorem okA_small (T : Nat → Nat → Bool) {n : Nat} (hn : n ≤ 1000) : okA (pdqS (logA T) othR n (logA0 n)) := by
  have h1 := (way_pdqS (M := logA T) (n := n) othR_ok (logA0 n)).cost (logA_costs T)
  have h2 : costP n n ≤ 2001 * 20300 := Nat.mul_le_mul (by omega) (by unfold costC; omega)
  have h3 : (logA0 n).2.length = 1 := rfl
  unfold okA
  omega

/-- Boxes of one cell behind the block B stay as they are. -/
def Stays (B : Nat) (w w' : World) : Prop := ∀ b u t, B < b → w.heap[b]? = some (.cells #[u] t) → w'.heap[b]? = some (.cells #[u] t)
theorem own_ne {W : World} {B : Nat} {e : TypeId} {v : Value} {n : Nat} {xs : List Value} (h : W.ownsRow B e 3 v n xs) {b : Nat} {u : Value} {t : TypeId} (hb : W.heap[b]? = some (.cells #[u] t)) : some b ≠ v.ownBlock := by
  rcases h.2 with ⟨rfl, _⟩ | ⟨g, cap, cur, rfl, _, hh, _, _, hc, _⟩
  · simp [Value.ownBlock]
  · intro q
    simp only [Value.ownBlock, Option.some.injEq] at q
    subst q
    rw [hh] at hb
    simp only [Option.some.injEq, Obj.cells.injEq] at hb
    rw [hb.1] at hc
    have h1 : (#[u] : Array Value).size = 1 := rfl
    omega
theorem heap_alloc_new (w : World) (o : Obj) : (w.alloc o).heap[w.heap.size]? = some o := by unfold World.alloc; simp
theorem heap_alloc_old (w : World) (o : Obj) {k : Nat} (hk : k < w.heap.size) : (w.alloc o).heap[k]? = w.heap[k]? := ((Below.refl w.heap.size w).alloc (Nat.le_refl _) o).block k hk
theorem stays_step {Bw : Nat} {W W2 : World} {o : Obj} {e : TypeId} {v v' : Value} {n : Nat} {xs : List Value} (h6 : W.ownsRow (Bw + 1) e 3 v n xs) (hgr : (W.alloc o).grownBy W2 v.ownBlock) : Stays Bw W (W2.setCell ⟨Bw, 3, none⟩ v') := fun b u t hB hb => by
  have hlt : b < W.heap.size := lt_of_block hb
  rw [heap_setCell_other _ _ _ _ (by simp; omega), hgr.block b (by simp; omega) (own_ne h6 hb), heap_alloc_old _ _ hlt]
  exact hb
theorem stays_below {B : Nat} {w w' : World} (hb : Below w.heap.size w w') : Stays B w w' := fun b u t _ h => by rw [hb.block b (lt_of_block h)]; exact h
theorem Stays.trans {B : Nat} {a b c : World} (h : Stays B a b) (h' : Stays B b c) : Stays B a c := fun k u t hk hh => h' k u t hk (h k u t hk hh)
theorem stays_set {B : Nat} (w : World) {a : Addr} (ha : a.block ≤ B) (v : Value) : Stays B w (w.setCell a v) := fun b u t hB hb => by
  rw [heap_setCell_other _ _ _ _ (by omega)]; exact hb

set_option maxHeartbeats 1000000 in
theorem watchedLessX (Bw i j : Nat) (A0 : Option Addr) (n cap : Nat) (sz : Int) (A : Option Addr) (m c : Nat) (l : Log) (b : Bool) (W : World) (Q : World → Prop) (hl : l.length ≤ 5864062014804)
    (hL : LogB Bw (.slice A0 n cap) (.int .i64 sz) (.slice A m c) l W)
    (hC : ∀ W2, LogB Bw (.slice A0 n cap) (.int .i64 sz) (.slice A m c) (l ++ [(2, i, j)]) W2 → Below Bw W W2 → Stays Bw W W2 → Calls Try.prog 172 #[.agg #[.slice A0 n cap, .int .i64 sz, .slice A m c], .int .i64 i, .int .i64 j] W2 fun e w' => e = .returned (.bool b) ∧ Q w') :
    Calls Try.prog 175 #[.pointer (some ⟨Bw, 0, none⟩), .int .i64 i, .int .i64 j] W fun e w' => e = .returned (.bool b) ∧ Q w' := by
  obtain ⟨i0, hi0, hz0, hz1, hz2⟩ := info_parts infoCall
  obtain ⟨v, h0, h1, h2, h3, h4, h5, h6⟩ := hL
  have HC := Lib.hid hC; have HO := Lib.hid h6
  clear hC h6
  go_enter Try.func175, Try.ntmps175
  go_wp2_with (at_builtin; refine wpList_append_own _ rfl _ _ 40 rfl (Bw + 1) 163 i0 (.agg #[.int .i64 0, .int .i64 0, .int .i64 0]) 3 24 Try.underlying40 hi0 hz0 hz1 hz2 rfl (by decide) _ _ _ rfl (HO.out.alloc _) ⟨W.heap.size, 0, none⟩ 1 1 (callV (2, i, j)) rfl rfl ?c1 ?c2 ?c3 ?c4 ?c5 ?_)
  case c1 => exact cell_three_new _ _ _ _ _ rfl
  case c2 => simp [callV, Value.oneCell']
  case c3 => simp only [maxLen]; omega
  case c4 => omega
  case c5 => simp; omega
  intro v' W2 ho2 hg2 _
  obtain ⟨gv, cv, hv', _⟩ := ho2.form (by omega)
  rw [hv'] at ho2 ⊢
  clear hv'
  obtain ⟨⟨c0, c1⟩, hA, hB⟩ := logB_step h0 h1 h2 h3 h4 h5 HO.out ho2 hg2
  obtain ⟨_, _, y0, y1, y2, _⟩ := id hA
  have HA := Lib.hid (HC.out _ hA hB (stays_step HO.out hg2))
  clear hA hB hg2 ho2 HC h1 h2 h3 h4 h5 HO
  go_wp2_with fail
  refine HA.out.mono ?_
  rintro e w' ⟨rfl, hQ⟩
  have HQ := Lib.hid hQ; clear hQ
  go_wp2_with fail
  go_ret
  exact ⟨rfl, HQ.out⟩

set_option maxHeartbeats 1000000 in
theorem watchedSwapX (Bw i j : Nat) (A0 : Option Addr) (n cap : Nat) (sz : Int) (A : Option Addr) (m c : Nat) (l : Log) (W : World) (Q : World → Prop) (hl : l.length ≤ 5864062014804)
    (hL : LogB Bw (.slice A0 n cap) (.int .i64 sz) (.slice A m c) l W)
    (hC : ∀ W2, LogB Bw (.slice A0 n cap) (.int .i64 sz) (.slice A m c) (l ++ [(3, i, j)]) W2 → Below Bw W W2 → Stays Bw W W2 → Calls Try.prog 173 #[.agg #[.slice A0 n cap, .int .i64 sz, .slice A m c], .int .i64 i, .int .i64 j] W2 fun e w' => e = .returned (.tuple #[]) ∧ Q w') :
    Calls Try.prog 176 #[.pointer (some ⟨Bw, 0, none⟩), .int .i64 i, .int .i64 j] W fun e w' => e = .returned (.tuple #[]) ∧ Q w' := by
  obtain ⟨i0, hi0, hz0, hz1, hz2⟩ := info_parts infoCall
  obtain ⟨v, h0, h1, h2, h3, h4, h5, h6⟩ := hL
  have HC := Lib.hid hC; have HO := Lib.hid h6
  clear hC h6
  go_enter Try.func176, Try.ntmps176
  go_wp2_with (at_builtin; refine wpList_append_own _ rfl _ _ 40 rfl (Bw + 1) 163 i0 (.agg #[.int .i64 0, .int .i64 0, .int .i64 0]) 3 24 Try.underlying40 hi0 hz0 hz1 hz2 rfl (by decide) _ _ _ rfl (HO.out.alloc _) ⟨W.heap.size, 0, none⟩ 1 1 (callV (3, i, j)) rfl rfl ?c1 ?c2 ?c3 ?c4 ?c5 ?_)
  case c1 => exact cell_three_new _ _ _ _ _ rfl
  case c2 => simp [callV, Value.oneCell']
  case c3 => simp only [maxLen]; omega
  case c4 => omega
  case c5 => simp; omega
  intro v' W2 ho2 hg2 _
  obtain ⟨gv, cv, hv', _⟩ := ho2.form (by omega)
  rw [hv'] at ho2 ⊢
  clear hv'
  obtain ⟨⟨c0, c1⟩, hA, hB⟩ := logB_step h0 h1 h2 h3 h4 h5 HO.out ho2 hg2
  obtain ⟨_, _, y0, y1, y2, _⟩ := id hA
  have HA := Lib.hid (HC.out _ hA hB (stays_step HO.out hg2))
  clear hA hB hg2 ho2 HC h1 h2 h3 h4 h5 HO
  go_wp2_with fail
  refine HA.out.mono ?_
  rintro e w' ⟨rfl, hQ⟩
  have HQ := Lib.hid hQ; clear hQ
  go_wp2_with fail
  go_end0
  exact ⟨rfl, HQ.out⟩


/-- A box of one cell behind the block B. -/
def FrnH (B : Nat) (x : Option (Nat × Value)) (w : World) : Prop := ∀ b u, x = some (b, u) → B < b ∧ ∃ t, w.heap[b]? = some (.cells #[u] t)
theorem FrnH.stays {B : Nat} {x : Option (Nat × Value)} {w w' : World} (h : FrnH B x w) (hs : Stays B w w') : FrnH B x w' := fun b u e => by
  obtain ⟨h1, t, h2⟩ := h b u e
  exact ⟨h1, t, hs b u t h1 h2⟩

theorem LogB.sto {Bw : Nat} {a0 a1 a2 : Value} {l : Log} {W : World} (h : LogB Bw a0 a1 a2 l W) {b : Nat} {u : Value} {t : TypeId} (hB : Bw < b) (hb : W.heap[b]? = some (.cells #[u] t)) (v : Value) : LogB Bw a0 a1 a2 l (W.setCell ⟨b, 0, none⟩ v) := by
  obtain ⟨s, h0, h1, h2, h3, h4, h5, h6⟩ := h
  have hc : ∀ k, (W.setCell ⟨b, 0, none⟩ v).cell? ⟨Bw, k, none⟩ = W.cell? ⟨Bw, k, none⟩ := fun k => World.cell?_setCell_other _ _ _ _ (fun e => by have := (Addr.mk.inj e).1; omega)
  refine ⟨s, by simpa [World.setCell] using h0, (hc 0).trans h1, (hc 1).trans h2, (hc 2).trans h3, (hc 3).trans h4, (World.frozen?_setCell _ _ _ _).trans h5, h6.1, ?_⟩
  have hne := own_ne h6 hb
  rcases h6.2 with h | ⟨g, cap, cur, hv, hg, hh, r⟩
  · exact .inl h
  · refine .inr ⟨g, cap, cur, hv, hg, ?_, r⟩
    rw [heap_setCell_other _ _ _ _ (fun q => hne (by rw [hv]; simp only [Value.ownBlock]; rw [q]))]
    exact hh

/-- Memory of watched over a row in the order of an array, with its log. -/
def RowL (w0 : World) (g : Nat) (t : TypeId) (n len : Nat) (e G : Nat → Value) (Bw : Nat) (a0 a1 a2 : Value) (s : Array Nat × Log) (w : World) : Prop := RowA w0 g t n len e G s.1 w ∧ LogB Bw a0 a1 a2 s.2 w

theorem boxL (w0 : World) (g : Nat) (t : TypeId) (n len : Nat) (e G : Nat → Value) (Bw : Nat) (a0 a1 a2 : Value) (hg : g < Bw) : BoxQ (fun x s w => RowL w0 g t n len e G Bw a0 a1 a2 s w ∧ FrnH Bw x w) where
  opn := fun s w v ty h => by
    have hal := (Below.refl w.heap.size w).alloc (Nat.le_refl _) (.cells #[v] ty)
    refine ⟨⟨⟨h.1.1.1.keep hal, h.1.1.2⟩, h.1.2.keep hal⟩, fun b u e => ?_⟩
    simp only [Option.some.injEq, Prod.mk.injEq] at e
    obtain ⟨rfl, rfl⟩ := e
    obtain ⟨_, h0, _⟩ := h.1.2
    exact ⟨h0, ty, heap_alloc_new _ _⟩
  sto := fun s w b v v' h => by
    obtain ⟨h1, ty, h2⟩ := h.2 b v rfl
    refine ⟨⟨⟨h.1.1.1.lowB ((Below.refl b w).setCell (p := ⟨b, 0, none⟩) (Nat.le_refl _) _) (by omega), h.1.1.2⟩, h.1.2.sto h1 h2 v'⟩, fun b' u e => ?_⟩
    simp only [Option.some.injEq, Prod.mk.injEq] at e
    obtain ⟨rfl, rfl⟩ := e
    exact ⟨h1, ty, by simp [World.setCell, Array.getElem?_modify, h2]⟩
  cls := fun s w b v h => ⟨h.1, fun _ _ e => by simp at e⟩
  cel := fun s w b v h => by
    obtain ⟨h1, ty, h2⟩ := h.2 b v rfl
    exact ⟨by simp [World.cell?, h2], by simp [World.frozen?, h2]⟩
  drw := fun x s w q h => ⟨⟨⟨h.1.1.1.drewN q, h.1.1.2⟩, h.1.2.drewN q⟩, h.2⟩

/-- watched over a row of its own, as a value with Less and Swap and room for a box. -/
theorem watchedQ (sz : Int) (A : Option Addr) (m c B : Nat) (gb : Nat → Bool) (g n cap len Bw : Nat) (f : Nat → Int) (G : Nat → Value) (T : Nat → Nat → Bool) (w0 : World) (hsz : I64 sz) (hm : m ≤ 140737488351232) (hB : B ≤ g) (hgB : g < Bw) (hrd : Rd w0 B Value.bool A m gb)
    (hf64 : ∀ i, I64 (f i)) (hn : n ≤ 1152921504606846975) (hT : ∀ i j, i < n → j < n → T i j = relB sz m gb (f i) (f j)) :
    IfaceQ (logA T) okA (fun x s w => RowL w0 g 3 n len (fun k => .int .i64 (f k)) G Bw (.slice (some ⟨g, 0, none⟩) n cap) (.int .i64 sz) (.slice A m c) s w ∧ FrnH Bw x w) 65 (.pointer (some ⟨Bw, 0, none⟩)) 175 176 n where
  face := fun x => {
    guard := logA_guard T
    hn := hn
    mL := watched_less _
    mS := watched_swap _
    eL := watched_el
    eS := watched_es
    less := fun s w i j hi hj hR hok => by
      have hl : s.2.length ≤ 5864062014804 := by have h' : (s.2 ++ [(2, i, j)]).length ≤ 5864062014805 := hok; rw [List.length_append] at h'; exact Nat.le_of_succ_le_succ h'
      refine watchedLessX Bw i j _ n cap sz A m c s.2 _ w _ hl hR.1.2 fun W2 hL2 hb2 hs2 => ?_
      have hR2 := hR.1.1.1.lowB hb2 hgB
      have hg2 : g < W2.heap.size := hR2.lt
      refine (orderedLess (some ⟨g, 0, none⟩) n cap sz A m c i j B W2.heap.size gb (fun k => f (atA s.1 k)) W2 hsz hm (by omega) (hrd.keep hR2.1 hB) (fun k => hf64 _) (by omega) (Nat.le_refl _)
        (fun _ => ⟨g, 0, rfl, hg2, fun k hk => by rw [Nat.zero_add]; exact hR2.cell hk⟩) hi hj).mono fun e w' h => ⟨?_, ⟨⟨hR2.keep h.2, hR.1.1.2⟩, hL2.keep h.2⟩, hR.2.stays (hs2.trans (stays_below h.2))⟩
      rw [h.1]
      show _ = Ending.returned (.bool (T (atA s.1 i) (atA s.1 j)))
      rw [hT _ _ (hR.1.1.2.2.1 i hi) (hR.1.1.2.2.1 j hj)]
    swap := fun s w i j hi hj hR hok => by
      have hl : s.2.length ≤ 5864062014804 := by have h' : (s.2 ++ [(3, i, j)]).length ≤ 5864062014805 := hok; rw [List.length_append] at h'; exact Nat.le_of_succ_le_succ h'
      refine watchedSwapX Bw i j _ n cap sz A m c s.2 w _ hl hR.1.2 fun W2 hL2 hb2 hs2 => ?_
      have hR2 := hR.1.1.1.lowB hb2 hgB
      refine (orderedSwap g n cap sz A m c i j (f (atA s.1 i)) (f (atA s.1 j)) W2 (by omega) hi hj hR2.lt (hR2.cell hi) (hR2.cell hj) (hR2.frozen i) (hR2.frozen j)).mono fun e w' h => ⟨h.1, ?_⟩
      obtain ⟨q, o, rfl⟩ := h.2
      have hal := (Below.refl W2.heap.size W2).alloc (Nat.le_refl _) o
      exact ⟨⟨⟨(((hR2.keep hal).swap hi hj).congr fun k hk => atA_swp hR.1.1.2.1 hi hj hk).drewN q, permA_swp hR.1.1.2 hi hj⟩, (((hL2.keep hal).setCell (a := ⟨g, i, none⟩) hgB _).setCell (a := ⟨g, j, none⟩) hgB _).drewN q⟩,
        hR.2.stays (((hs2.trans (stays_below hal)).trans (stays_set _ (a := ⟨g, i, none⟩) (Nat.le_of_lt hgB) _)).trans (stays_set _ (a := ⟨g, j, none⟩) (Nat.le_of_lt hgB) _))⟩ }
  box := boxL _ _ _ _ _ _ _ _ _ _ _ hgB

/-- sort.Sort of a value whose Len is 0. -/
theorem sortOne {R : World → Prop} {ty : TypeId} {rv : Value} (gn : Nat) (mN : ∀ w, (method 266 ty rv "Len").run Try.prog w = .ok (gn, rv) w) (eN : ∀ args w, (callFunc gn args).run Try.prog w = .ok (.enter gn args) w) (w1 : World)
    (hN : Calls Try.prog gn #[rv] w1 fun e w' => e = .returned (.int .i64 0) ∧ R w') : Calls Try.prog 37 #[.iface ty rv] w1 (Leaves (fun (_ : Unit) w' => R w') ()) := by
  have HN := Lib.hid hN
  clear hN
  go_enter Try.func37, Try.ntmps37
  go_wp2_with fail
  refine HN.out.mono ?_
  rintro e w2 ⟨rfl, hb⟩
  have HB := Lib.hid hb; clear hb
  go_wp2_with fail
  go_end0
  exact ⟨rfl, HB.out⟩

/-- sort.Sort at a new watched over a row g (or nil). -/
theorem sortWatched (sz : Int) (A : Option Addr) (m c B : Nat) (gb : Nat → Bool) (A0 : Option Addr) (n cap : Nat) (f : Nat → Int) (T : Nat → Nat → Bool) (w w1 : World) (G : Nat → Value) (hsz : I64 sz) (hm : m ≤ 140737488351232) (hB : B ≤ w.heap.size) (hrd : Rd w B Value.bool A m gb)
    (hf64 : ∀ i, I64 (f i)) (hn : n ≤ 1048576) (hok : okA (pdqS (logA T) othR n (logA0 n))) (hT : ∀ i j, i < n → j < n → T i j = relB sz m gb (f i) (f j)) (hb1 : Below w.heap.size w w1)
    (hG : (A0 = none ∧ n = 0) ∨ ∃ g, A0 = some ⟨g, 0, none⟩ ∧ w.heap.size ≤ g ∧ n ≤ cap ∧ w1.rowIs g 3 (cap * 1) G) (hF : ∀ k, k < n → G k = .int .i64 (f k)) :
    Calls Try.prog 37 #[.iface 65 (.pointer (some ⟨w1.heap.size, 0, none⟩))] (w1.alloc (.cells #[.slice A0 n cap, .int .i64 sz, .slice A m c, .slice none 0 0] 67)) fun e w' =>
      e = .returned (.tuple #[]) ∧ Below w.heap.size w w' ∧ LogB w1.heap.size (.slice A0 n cap) (.int .i64 sz) (.slice A m c) (pdqS (logA T) othR n (logA0 n)).2 w' := by
  have hLn := watchedLen w1.heap.size A0 n cap sz A m c [] (w1.alloc (.cells #[.slice A0 n cap, .int .i64 sz, .slice A m c, .slice none 0 0] 67)) (by simp) logB_new
  have hal := (Below.refl w1.heap.size w1).alloc (Nat.le_refl _) (.cells #[.slice A0 n cap, .int .i64 sz, .slice A m c, .slice none 0 0] 67)
  rcases hG with ⟨rfl, rfl⟩ | ⟨g, rfl, hg, hnc, hr⟩
  · refine (sortOne (R := fun w2 => Below w.heap.size w w2 ∧ LogB w1.heap.size (.slice none 0 cap) (.int .i64 sz) (.slice A m c) [(1, 0, 0)] w2) 174 (watched_len _) watched_en _ (hLn.mono fun e w2 h => ⟨h.1, hb1.trans ((hal.trans h.2.2).mono hb1.size), h.2.1⟩)).mono fun e w' h => ⟨h.1, h.2.1, h.2.2⟩
  · refine (sortSort (watchedQ sz A m c B gb g n cap (cap * 1) w1.heap.size f G T w1 hsz hm (by omega) hr.lt (hrd.keep hb1 hB) hf64 (by omega) hT) 174 (watched_len _) watched_en (logA0 n) _
      (hLn.mono fun e w2 h => ⟨h.1, ⟨⟨RowP.lowB ⟨Below.refl _ _, hr.lt, by omega, hr.congr fun k _ => by
        by_cases hk : k < n
        · rw [if_pos hk, hF k hk]
          show _ = Value.int .i64 (f (atA (idA n) k))
          rw [idA_at hk]
        · rw [if_neg hk]⟩ (hal.trans h.2.2) hr.lt, permA_id n⟩, h.2.1⟩, fun _ _ e => by simp at e⟩) hok).mono fun e w' h => ⟨h.1, hb1.trans (h.2.1.1.1.1.mono hg), h.2.1.2⟩

set_option maxHeartbeats 2000000 in
theorem implSortCalls (sz : Int) (A : Option Addr) (m c B : Nat) (gb : Nat → Bool) (A' : Option Addr) (n c' B' : Nat) (f : Nat → Int) (T : Nat → Nat → Bool) (w : World) (hsz : I64 sz) (hm : m ≤ 140737488351232) (hB : B ≤ w.heap.size) (hrd : Rd w B Value.bool A m gb)
    (hf64 : ∀ i, I64 (f i)) (hn : n ≤ 1048576) (hok : okA (pdqS (logA T) othR n (logA0 n))) (hB' : B' ≤ w.heap.size) (hrd' : Rd w B' (Value.int .i64) A' n f) (hT : ∀ i j, i < n → j < n → T i j = relB sz m gb (f i) (f j)) :
    Calls Try.prog 29 #[.slice A' n c', .agg #[.int .i64 sz, .slice A m c]] w (OutL w (pdqS (logA T) othR n (logA0 n)).2) := by
  have H0 := Lib.hid (BoxInv.first w sz A m c 33)
  have HNu := Lib.hid (fun w' (hb : Below w.heap.size w w') => numbers A' n c' B' f w' (by omega) (hrd'.keep hb hB'))
  have HSt := Lib.hid (fun A0 cap w1 G hb hG hF => sortWatched sz A m c B gb A0 n cap f T w w1 G hsz hm hB hrd hf64 hn hok hT hb hG hF)
  clear hrd hrd' hB hB' hf64 hsz hT hok
  generalize (pdqS (logA T) othR n (logA0 n)).2 = l at *
  go_enter Try.func29, Try.ntmps29
  go_wp2_with fail
  have p0 := H0.out.c0
  have p1 := H0.out.c1
  generalize (w.alloc (.cells #[.int .i64 sz, .slice A m c] 33)) = V at *
  have HB := Lib.hid (H0.out.drewN 1)
  go_region_held3 (fun w' => w'.cell? ⟨w.heap.size, 0, none⟩ = some (.int .i64 sz) ∧ w'.cell? ⟨w.heap.size, 1, none⟩ = some (.slice A m c))
    (go_keep)
    (first | (go_at_call 45; refine (HNu.out _ HB.out.bel).mono ?_; rintro e w1 ⟨v1, rfl, ⟨G, hG, hF⟩, hb1⟩; obtain ⟨A0, cap, rfl, hG0⟩ := hG.slc; have HG0 := Lib.hid hG0; have HF := Lib.hid hF; have HS0 := Lib.hid hb1.size; have HB := Lib.hid (HB.out.step hb1); have q0 := HB.out.c0; have q1 := HB.out.c1; clear hb1 hG hG0 hF))
  have HC := Lib.hid (HSt.out A0 cap w1 G HB.out.bel (HG0.out.imp id fun ⟨g, h1, h2, h3⟩ => ⟨g, h1, Nat.le_trans H0.out.bel.size h2, h3⟩) (fun k hk => HF.out k (by omega)))
  have HS1 := Lib.hid HB.out.bel.size
  clear HSt HNu HG0 HF HS0 H0 p0 p1 q0 q1
  go_wp2_with fail
  refine HC.out.mono ?_
  rintro e w2 ⟨rfl, hb2, v, z0, z1, z2, z3, z4, z5, z6⟩
  have HR := Lib.hid (And.intro (World.ownsRow.mono z6 (Nat.le_succ_of_le HS1.out)) hb2)
  clear hb2 z1 z2 z3 z5 z6 HC
  go_wp2_with fail
  go_ret
  exact ⟨v, rfl, HR.out.1, HR.out.2⟩
end Go.Proofs.Ytjammaglboehcaa
