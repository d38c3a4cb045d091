/-
  impl.SortCalls: the log of the calls that sort.Sort makes, for lists of at most 1048576 numbers by any relation.
-/
import Derived.Test.YtjammaglboehcaaPqV
import Derived.Test.YtjammaglboehcaaZC
import Derived.Deep.DeepAppendWide
namespace Go.Proofs.Ytjammaglboehcaa
open Go.RowKit Go.Proofs
set_option linter.unusedVariables false

def okW (s : (Nat → Nat) × Log) : Prop := s.2.length ≤ 9382000000000
theorem logM_guardW (T : Nat → Nat → Bool) : Guard (logM T) okW :=
  ⟨fun s i j h => by have h' : (s.2 ++ [(2, i, j)]).length ≤ 9382000000000 := h; rw [List.length_append] at h'; exact Nat.le_of_add_right_le h', fun s i j h => by have h' : (s.2 ++ [(3, i, j)]).length ≤ 9382000000000 := h; rw [List.length_append] at h'; exact Nat.le_of_add_right_le h'⟩
/-- A list of at most 1048576: the log stays within what an append bears. -/
theorem okW_pdq (T : Nat → Nat → Bool) {n : Nat} (hn : n ≤ 1048576) : okW (pdqS (logM T) othR n log0) := by
  have h1 := pdqS_cost (logM_view T) othR_ok (logM_costs T) n log0 hn
  have h2 : log0.2.length = 1 := rfl
  unfold okW
  omega

set_option maxHeartbeats 1000000 in
theorem watchedLessW (Bw i j : Nat) (A0 : Option Addr) (n cap : Nat) (sz : Int) (A : Option Addr) (m c : Nat) (l : Log) (b : Bool) (W : World) (Q : World → Prop) (hl : l.length ≤ 9381999999999)
    (hL : LogB Bw (.slice A0 n cap) (.int .i64 sz) (.slice A m c) l W)
    (hC : ∀ W2, LogB Bw (.slice A0 n cap) (.int .i64 sz) (.slice A m c) (l ++ [(2, i, j)]) W2 → Below Bw W W2 → Stays Bw W W2 → Calls Try.prog 172 #[.agg #[.slice A0 n cap, .int .i64 sz, .slice A m c], .int .i64 i, .int .i64 j] W2 fun e w' => e = .returned (.bool b) ∧ Q w') :
    Calls Try.prog 175 #[.pointer (some ⟨Bw, 0, none⟩), .int .i64 i, .int .i64 j] W fun e w' => e = .returned (.bool b) ∧ Q w' := by
  obtain ⟨i0, hi0, hz0, hz1, hz2⟩ := info_parts infoCall
  obtain ⟨v, h0, h1, h2, h3, h4, h5, h6⟩ := hL
  have HC := Lib.hid hC; have HO := Lib.hid h6
  clear hC h6
  go_enter Try.func175, Try.ntmps175
  go_wp2_with (at_builtin; refine wpList_append_own_wide _ rfl _ _ 40 rfl (Bw + 1) 163 i0 (.agg #[.int .i64 0, .int .i64 0, .int .i64 0]) 3 24 Try.underlying40 hi0 hz0 hz1 hz2 rfl (by decide) _ _ _ rfl (HO.out.alloc _) ⟨W.heap.size, 0, none⟩ 1 1 (callV (2, i, j)) rfl rfl ?c1 ?c2 ?c3 ?c4 ?c5 ?_)
  case c1 => exact cell_three_new _ _ _ _ _ rfl
  case c2 => simp [callV, Value.oneCell']
  case c3 => simp only [maxLen]; omega
  case c4 => omega
  case c5 => simp; omega
  intro v' W2 ho2 hg2 _
  obtain ⟨gv, cv, hv', _⟩ := ho2.form (by omega)
  rw [hv'] at ho2 ⊢
  clear hv'
  obtain ⟨⟨c0, c1⟩, hA, hB⟩ := logB_step h0 h1 h2 h3 h4 h5 HO.out ho2 hg2
  obtain ⟨_, _, y0, y1, y2, _⟩ := id hA
  have HA := Lib.hid (HC.out _ hA hB (stays_step HO.out hg2))
  clear hA hB hg2 ho2 HC h1 h2 h3 h4 h5 HO
  go_wp2_with fail
  refine HA.out.mono ?_
  rintro e w' ⟨rfl, hQ⟩
  have HQ := Lib.hid hQ; clear hQ
  go_wp2_with fail
  go_ret
  exact ⟨rfl, HQ.out⟩

set_option maxHeartbeats 1000000 in
theorem watchedSwapW (Bw i j : Nat) (A0 : Option Addr) (n cap : Nat) (sz : Int) (A : Option Addr) (m c : Nat) (l : Log) (W : World) (Q : World → Prop) (hl : l.length ≤ 9381999999999)
    (hL : LogB Bw (.slice A0 n cap) (.int .i64 sz) (.slice A m c) l W)
    (hC : ∀ W2, LogB Bw (.slice A0 n cap) (.int .i64 sz) (.slice A m c) (l ++ [(3, i, j)]) W2 → Below Bw W W2 → Stays Bw W W2 → Calls Try.prog 173 #[.agg #[.slice A0 n cap, .int .i64 sz, .slice A m c], .int .i64 i, .int .i64 j] W2 fun e w' => e = .returned (.tuple #[]) ∧ Q w') :
    Calls Try.prog 176 #[.pointer (some ⟨Bw, 0, none⟩), .int .i64 i, .int .i64 j] W fun e w' => e = .returned (.tuple #[]) ∧ Q w' := by
  obtain ⟨i0, hi0, hz0, hz1, hz2⟩ := info_parts infoCall
  obtain ⟨v, h0, h1, h2, h3, h4, h5, h6⟩ := hL
  have HC := Lib.hid hC; have HO := Lib.hid h6
  clear hC h6
  go_enter Try.func176, Try.ntmps176
  go_wp2_with (at_builtin; refine wpList_append_own_wide _ rfl _ _ 40 rfl (Bw + 1) 163 i0 (.agg #[.int .i64 0, .int .i64 0, .int .i64 0]) 3 24 Try.underlying40 hi0 hz0 hz1 hz2 rfl (by decide) _ _ _ rfl (HO.out.alloc _) ⟨W.heap.size, 0, none⟩ 1 1 (callV (3, i, j)) rfl rfl ?c1 ?c2 ?c3 ?c4 ?c5 ?_)
  case c1 => exact cell_three_new _ _ _ _ _ rfl
  case c2 => simp [callV, Value.oneCell']
  case c3 => simp only [maxLen]; omega
  case c4 => omega
  case c5 => simp; omega
  intro v' W2 ho2 hg2 _
  obtain ⟨gv, cv, hv', _⟩ := ho2.form (by omega)
  rw [hv'] at ho2 ⊢
  clear hv'
  obtain ⟨⟨c0, c1⟩, hA, hB⟩ := logB_step h0 h1 h2 h3 h4 h5 HO.out ho2 hg2
  obtain ⟨_, _, y0, y1, y2, _⟩ := id hA
  have HA := Lib.hid (HC.out _ hA hB (stays_step HO.out hg2))
  clear hA hB hg2 ho2 HC h1 h2 h3 h4 h5 HO
  go_wp2_with fail
  refine HA.out.mono ?_
  rintro e w' ⟨rfl, hQ⟩
  have HQ := Lib.hid hQ; clear hQ
  go_wp2_with fail
  go_end0
  exact ⟨rfl, HQ.out⟩



/-- Memory of watched over a row in an order, with its log. -/
def RowLF (w0 : World) (g : Nat) (t : TypeId) (n len : Nat) (e G : Nat → Value) (Bw : Nat) (a0 a1 a2 : Value) (s : (Nat → Nat) × Log) (w : World) : Prop := (RowP w0 g t n len e G s.1 w ∧ PermN n s.1) ∧ LogB Bw a0 a1 a2 s.2 w

theorem boxLF (w0 : World) (g : Nat) (t : TypeId) (n len : Nat) (e G : Nat → Value) (Bw : Nat) (a0 a1 a2 : Value) (hg : g < Bw) : BoxQ (fun x s w => RowLF w0 g t n len e G Bw a0 a1 a2 s w ∧ FrnH Bw x w) where
  opn := fun s w v ty h => by
    have hal := (Below.refl w.heap.size w).alloc (Nat.le_refl _) (.cells #[v] ty)
    refine ⟨⟨⟨h.1.1.1.keep hal, h.1.1.2⟩, h.1.2.keep hal⟩, fun b u e => ?_⟩
    simp only [Option.some.injEq, Prod.mk.injEq] at e
    obtain ⟨rfl, rfl⟩ := e
    obtain ⟨_, h0, _⟩ := h.1.2
    exact ⟨h0, ty, heap_alloc_new _ _⟩
  sto := fun s w b v v' h => by
    obtain ⟨h1, ty, h2⟩ := h.2 b v rfl
    refine ⟨⟨⟨h.1.1.1.lowB ((Below.refl b w).setCell (p := ⟨b, 0, none⟩) (Nat.le_refl _) _) (by omega), h.1.1.2⟩, h.1.2.sto h1 h2 v'⟩, fun b' u e => ?_⟩
    simp only [Option.some.injEq, Prod.mk.injEq] at e
    obtain ⟨rfl, rfl⟩ := e
    exact ⟨h1, ty, by simp [World.setCell, Array.getElem?_modify, h2]⟩
  cls := fun s w b v h => ⟨h.1, fun _ _ e => by simp at e⟩
  cel := fun s w b v h => by
    obtain ⟨h1, ty, h2⟩ := h.2 b v rfl
    exact ⟨by simp [World.cell?, h2], by simp [World.frozen?, h2]⟩
  drw := fun x s w q h => ⟨⟨⟨h.1.1.1.drewN q, h.1.1.2⟩, h.1.2.drewN q⟩, h.2⟩

/-- watched over a row of its own, as a value with Less and Swap and room for a box. -/
theorem watchedQW (sz : Int) (A : Option Addr) (m c B : Nat) (gb : Nat → Bool) (g n cap len Bw : Nat) (f : Nat → Int) (G : Nat → Value) (T : Nat → Nat → Bool) (w0 : World) (hsz : I64 sz) (hm : m ≤ 140737488351232) (hB : B ≤ g) (hgB : g < Bw) (hrd : Rd w0 B Value.bool A m gb)
    (hf64 : ∀ i, I64 (f i)) (hn : n ≤ 1152921504606846975) (hT : ∀ i j, i < n → j < n → T i j = relB sz m gb (f i) (f j)) :
    IfaceQ (logM T) okW (fun x s w => RowLF w0 g 3 n len (fun k => .int .i64 (f k)) G Bw (.slice (some ⟨g, 0, none⟩) n cap) (.int .i64 sz) (.slice A m c) s w ∧ FrnH Bw x w) 65 (.pointer (some ⟨Bw, 0, none⟩)) 175 176 n where
  face := fun x => {
    guard := logM_guardW T
    hn := hn
    mL := watched_less _
    mS := watched_swap _
    eL := watched_el
    eS := watched_es
    less := fun s w i j hi hj hR hok => by
      have hl : s.2.length ≤ 9381999999999 := by have h' : (s.2 ++ [(2, i, j)]).length ≤ 9382000000000 := hok; rw [List.length_append] at h'; exact Nat.le_of_succ_le_succ h'
      refine watchedLessW Bw i j _ n cap sz A m c s.2 _ w _ hl hR.1.2 fun W2 hL2 hb2 hs2 => ?_
      have hR2 := hR.1.1.1.lowB hb2 hgB
      have hg2 : g < W2.heap.size := hR2.lt
      refine (orderedLess (some ⟨g, 0, none⟩) n cap sz A m c i j B W2.heap.size gb (fun k => f (s.1 k)) W2 hsz hm (by omega) (hrd.keep hR2.1 hB) (fun k => hf64 _) (by omega) (Nat.le_refl _)
        (fun _ => ⟨g, 0, rfl, hg2, fun k hk => by rw [Nat.zero_add]; exact hR2.cell hk⟩) hi hj).mono fun e w' h => ⟨?_, ⟨⟨hR2.keep h.2, hR.1.1.2⟩, hL2.keep h.2⟩, hR.2.stays (hs2.trans (stays_below h.2))⟩
      rw [h.1]
      show _ = Ending.returned (.bool (T (s.1 i) (s.1 j)))
      rw [hT _ _ (hR.1.1.2.1 i hi) (hR.1.1.2.1 j hj)]
    swap := fun s w i j hi hj hR hok => by
      have hl : s.2.length ≤ 9381999999999 := by have h' : (s.2 ++ [(3, i, j)]).length ≤ 9382000000000 := hok; rw [List.length_append] at h'; exact Nat.le_of_succ_le_succ h'
      refine watchedSwapW Bw i j _ n cap sz A m c s.2 w _ hl hR.1.2 fun W2 hL2 hb2 hs2 => ?_
      have hR2 := hR.1.1.1.lowB hb2 hgB
      refine (orderedSwap g n cap sz A m c i j (f (s.1 i)) (f (s.1 j)) W2 (by omega) hi hj hR2.lt (hR2.cell hi) (hR2.cell hj) (hR2.frozen i) (hR2.frozen j)).mono fun e w' h => ⟨h.1, ?_⟩
      obtain ⟨q, o, rfl⟩ := h.2
      have hal := (Below.refl W2.heap.size W2).alloc (Nat.le_refl _) o
      exact ⟨⟨⟨((hR2.keep hal).swap hi hj).drewN q, permN_swap hR.1.1.2 hi hj⟩, (((hL2.keep hal).setCell (a := ⟨g, i, none⟩) hgB _).setCell (a := ⟨g, j, none⟩) hgB _).drewN q⟩,
        hR.2.stays (((hs2.trans (stays_below hal)).trans (stays_set _ (a := ⟨g, i, none⟩) (Nat.le_of_lt hgB) _)).trans (stays_set _ (a := ⟨g, j, none⟩) (Nat.le_of_lt hgB) _))⟩ }
  box := boxLF _ _ _ _ _ _ _ _ _ _ _ hgB

/-- sort.Sort at a new watched over a row g (or nil). -/
theorem sortWatchedW (sz : Int) (A : Option Addr) (m c B : Nat) (gb : Nat → Bool) (A0 : Option Addr) (n cap : Nat) (f : Nat → Int) (T : Nat → Nat → Bool) (w w1 : World) (G : Nat → Value) (hsz : I64 sz) (hm : m ≤ 140737488351232) (hB : B ≤ w.heap.size) (hrd : Rd w B Value.bool A m gb)
    (hf64 : ∀ i, I64 (f i)) (hn : n ≤ 1048576) (hT : ∀ i j, i < n → j < n → T i j = relB sz m gb (f i) (f j)) (hb1 : Below w.heap.size w w1)
    (hG : (A0 = none ∧ n = 0) ∨ ∃ g, A0 = some ⟨g, 0, none⟩ ∧ w.heap.size ≤ g ∧ n ≤ cap ∧ w1.rowIs g 3 (cap * 1) G) (hF : ∀ k, k < n → G k = .int .i64 (f k)) :
    Calls Try.prog 37 #[.iface 65 (.pointer (some ⟨w1.heap.size, 0, none⟩))] (w1.alloc (.cells #[.slice A0 n cap, .int .i64 sz, .slice A m c, .slice none 0 0] 67)) fun e w' =>
      e = .returned (.tuple #[]) ∧ Below w.heap.size w w' ∧ LogB w1.heap.size (.slice A0 n cap) (.int .i64 sz) (.slice A m c) (pdqS (logM T) othR n log0).2 w' := by
  have hok := okW_pdq T hn
  have hLn := watchedLen w1.heap.size A0 n cap sz A m c [] (w1.alloc (.cells #[.slice A0 n cap, .int .i64 sz, .slice A m c, .slice none 0 0] 67)) (by simp) logB_new
  have hal := (Below.refl w1.heap.size w1).alloc (Nat.le_refl _) (.cells #[.slice A0 n cap, .int .i64 sz, .slice A m c, .slice none 0 0] 67)
  rcases hG with ⟨rfl, rfl⟩ | ⟨g, rfl, hg, hnc, hr⟩
  · refine (sortOne (R := fun w2 => Below w.heap.size w w2 ∧ LogB w1.heap.size (.slice none 0 cap) (.int .i64 sz) (.slice A m c) [(1, 0, 0)] w2) 174 (watched_len _) watched_en _ (hLn.mono fun e w2 h => ⟨h.1, hb1.trans ((hal.trans h.2.2).mono hb1.size), h.2.1⟩)).mono fun e w' h => ⟨h.1, h.2.1, h.2.2⟩
  · refine (sortSort (watchedQW sz A m c B gb g n cap (cap * 1) w1.heap.size f G T w1 hsz hm (by omega) hr.lt (hrd.keep hb1 hB) hf64 (by omega) hT) 174 (watched_len _) watched_en log0 _
      (hLn.mono fun e w2 h => ⟨h.1, ⟨⟨RowP.lowB ⟨Below.refl _ _, hr.lt, by omega, hr.congr fun k _ => by
        by_cases hk : k < n
        · rw [if_pos hk, hF k hk]; rfl
        · rw [if_neg hk]⟩ (hal.trans h.2.2) hr.lt, permN_id n⟩, h.2.1⟩, fun _ _ e => by simp at e⟩) hok).mono fun e w' h => ⟨h.1, hb1.trans (h.2.1.1.1.1.mono hg), h.2.1.2⟩

set_option maxHeartbeats 2000000 in
theorem implSortCallsW (sz : Int) (A : Option Addr) (m c B : Nat) (gb : Nat → Bool) (A' : Option Addr) (n c' B' : Nat) (f : Nat → Int) (T : Nat → Nat → Bool) (w : World) (hsz : I64 sz) (hm : m ≤ 140737488351232) (hB : B ≤ w.heap.size) (hrd : Rd w B Value.bool A m gb)
    (hf64 : ∀ i, I64 (f i)) (hn : n ≤ 1048576) (hB' : B' ≤ w.heap.size) (hrd' : Rd w B' (Value.int .i64) A' n f) (hT : ∀ i j, i < n → j < n → T i j = relB sz m gb (f i) (f j)) :
    Calls Try.prog 29 #[.slice A' n c', .agg #[.int .i64 sz, .slice A m c]] w (OutL w (pdqS (logM T) othR n log0).2) := by
  have H0 := Lib.hid (BoxInv.first w sz A m c 33)
  have HNu := Lib.hid (fun w' (hb : Below w.heap.size w w') => numbers A' n c' B' f w' (by omega) (hrd'.keep hb hB'))
  have HSt := Lib.hid (fun A0 cap w1 G hb hG hF => sortWatchedW sz A m c B gb A0 n cap f T w w1 G hsz hm hB hrd hf64 hn hT hb hG hF)
  clear hrd hrd' hB hB' hf64 hsz hT
  generalize (pdqS (logM T) othR n log0).2 = l at *
  go_enter Try.func29, Try.ntmps29
  go_wp2_with fail
  have p0 := H0.out.c0
  have p1 := H0.out.c1
  generalize (w.alloc (.cells #[.int .i64 sz, .slice A m c] 33)) = V at *
  have HB := Lib.hid (H0.out.drewN 1)
  go_region_held3 (fun w' => w'.cell? ⟨w.heap.size, 0, none⟩ = some (.int .i64 sz) ∧ w'.cell? ⟨w.heap.size, 1, none⟩ = some (.slice A m c))
    (go_keep)
    (first | (go_at_call 45; refine (HNu.out _ HB.out.bel).mono ?_; rintro e w1 ⟨v1, rfl, ⟨G, hG, hF⟩, hb1⟩; obtain ⟨A0, cap, rfl, hG0⟩ := hG.slc; have HG0 := Lib.hid hG0; have HF := Lib.hid hF; have HS0 := Lib.hid hb1.size; have HB := Lib.hid (HB.out.step hb1); have q0 := HB.out.c0; have q1 := HB.out.c1; clear hb1 hG hG0 hF))
  have HC := Lib.hid (HSt.out A0 cap w1 G HB.out.bel (HG0.out.imp id fun ⟨g, h1, h2, h3⟩ => ⟨g, h1, Nat.le_trans H0.out.bel.size h2, h3⟩) (fun k hk => HF.out k (by omega)))
  have HS1 := Lib.hid HB.out.bel.size
  clear HSt HNu HG0 HF HS0 H0 p0 p1 q0 q1
  go_wp2_with fail
  refine HC.out.mono ?_
  rintro e w2 ⟨rfl, hb2, v, z0, z1, z2, z3, z4, z5, z6⟩
  have HR := Lib.hid (And.intro (World.ownsRow.mono z6 (Nat.le_succ_of_le HS1.out)) hb2)
  clear hb2 z1 z2 z3 z5 z6 HC
  go_wp2_with fail
  go_ret
  exact ⟨v, rfl, HR.out.1, HR.out.2⟩
end Go.Proofs.Ytjammaglboehcaa
