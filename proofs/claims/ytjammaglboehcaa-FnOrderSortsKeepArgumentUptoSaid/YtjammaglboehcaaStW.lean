/-
  The methods of watched: each appends what it was called with to a list of its own, then does as ordered's method.
-/
import Derived.Test.YtjammaglboehcaaStOr
import Derived.Test.YtjammaglboehcaaZA
namespace Go.Proofs.Ytjammaglboehcaa
open Go.RowKit Go.Proofs
set_option linter.unusedVariables false

theorem infoCall : (Try.prog.info? 163).map (fun i => (i.zero, i.size, i.bytes)) = some (some (.agg #[.int .i64 0, .int .i64 0, .int .i64 0]), 3, 24) := by kernel_rfl

/-- One call: its kind, its indices. -/
abbrev Log := List (Nat × Nat × Nat)
def callV (c : Nat × Nat × Nat) : List Value := [.int .i64 (c.1 : Int), .int .i64 (c.2.1 : Int), .int .i64 (c.2.2 : Int)]
def callsL (l : Log) : List Value := l.flatMap callV

/-- The box Bw of a value watched with the log l. -/
def LogB (Bw : Nat) (a0 a1 a2 : Value) (l : Log) (W : World) : Prop :=
  ∃ v, Bw < W.heap.size ∧ W.cell? ⟨Bw, 0, none⟩ = some a0 ∧ W.cell? ⟨Bw, 1, none⟩ = some a1 ∧ W.cell? ⟨Bw, 2, none⟩ = some a2 ∧ W.cell? ⟨Bw, 3, none⟩ = some v ∧ W.frozen? ⟨Bw, 3, none⟩ = false ∧ W.ownsRow (Bw + 1) 163 3 v l.length (callsL l)

theorem ownsRow_below {w w' : World} {base : Nat} {e : TypeId} {size : Nat} {v : Value} {n : Nat} {xs : List Value} (h : w.ownsRow base e size v n xs) (hb : Below w.heap.size w w') : w'.ownsRow base e size v n xs := by
  obtain ⟨h1, h2⟩ := h
  refine ⟨h1, ?_⟩
  rcases h2 with h2 | ⟨g, cap, cur, hv, hg, hh, r⟩
  · exact Or.inl h2
  · exact Or.inr ⟨g, cap, cur, hv, hg, by rw [hb.block g (lt_of_block hh)]; exact hh, r⟩

theorem LogB.keep {Bw : Nat} {a0 a1 a2 : Value} {l : Log} {W W' : World} (h : LogB Bw a0 a1 a2 l W) (hb : Below W.heap.size W W') : LogB Bw a0 a1 a2 l W' := by
  obtain ⟨v, h0, h1, h2, h3, h4, h5, h6⟩ := h
  exact ⟨v, Nat.lt_of_lt_of_le h0 hb.size, (hb.cell (p := ⟨Bw, 0, none⟩) h0).trans h1, (hb.cell (p := ⟨Bw, 1, none⟩) h0).trans h2, (hb.cell (p := ⟨Bw, 2, none⟩) h0).trans h3, (hb.cell (p := ⟨Bw, 3, none⟩) h0).trans h4, (hb.frozen (p := ⟨Bw, 3, none⟩) h0).trans h5, ownsRow_below h6 hb⟩
theorem LogB.drewN {Bw : Nat} {a0 a1 a2 : Value} {l : Log} {W : World} (h : LogB Bw a0 a1 a2 l W) (q : Nat) : LogB Bw a0 a1 a2 l (W.drewN q) := h
/-- A store below the box. -/
theorem LogB.setCell {Bw : Nat} {a0 a1 a2 : Value} {l : Log} {W : World} (h : LogB Bw a0 a1 a2 l W) {a : Addr} (ha : a.block < Bw) (u : Value) : LogB Bw a0 a1 a2 l (W.setCell a u) := by
  obtain ⟨v, h0, h1, h2, h3, h4, h5, h6⟩ := h
  have hc : ∀ k, (W.setCell a u).cell? ⟨Bw, k, none⟩ = W.cell? ⟨Bw, k, none⟩ := fun k => World.cell?_setCell_other _ _ _ _ (fun e => by rw [e] at ha; exact absurd ha (Nat.lt_irrefl _))
  exact ⟨v, by simpa [World.setCell] using h0, (hc 0).trans h1, (hc 1).trans h2, (hc 2).trans h3, (hc 3).trans h4, (World.frozen?_setCell _ _ _ _).trans h5, ownsRow_setCell_below h6 (by omega) u⟩

theorem cell_three_new (w : World) (x y z : Value) (t : TypeId) {g : Nat} (hg : g = w.heap.size) : ∀ j u, [x, y, z][j]? = some u → (w.alloc (.cells #[x, y, z] t)).cell? ((⟨g, 0, none⟩ : Addr).add j) = some u := by
  intro j u hj
  subst hg
  rw [Go.WideShapes.add_plain, Nat.zero_add, World.cell?_alloc_at _ _ _ _ rfl]
  match j, hj with
  | 0, hj => exact hj
  | 1, hj => exact hj
  | 2, hj => exact hj
  | j + 3, hj => simp at hj

/-- Behind the append and the store back. -/
theorem logB_step {Bw : Nat} {a0 a1 a2 : Value} {l : Log} {W W2 : World} {c : Nat × Nat × Nat} {v v' : Value} {o : Obj}
    (h0 : Bw < W.heap.size) (h1 : W.cell? ⟨Bw, 0, none⟩ = some a0) (h2 : W.cell? ⟨Bw, 1, none⟩ = some a1) (h3 : W.cell? ⟨Bw, 2, none⟩ = some a2) (h4 : W.cell? ⟨Bw, 3, none⟩ = some v) (h5 : W.frozen? ⟨Bw, 3, none⟩ = false) (h6 : W.ownsRow (Bw + 1) 163 3 v l.length (callsL l))
    (ho2 : W2.ownsRow (Bw + 1) 163 3 v' (l.length + 1) (callsL l ++ callV c)) (hgr : (W.alloc o).grownBy W2 v.ownBlock) :
    (W2.cell? ⟨Bw, 3, none⟩ = some v ∧ W2.frozen? ⟨Bw, 3, none⟩ = false) ∧ LogB Bw a0 a1 a2 (l ++ [c]) (W2.setCell ⟨Bw, 3, none⟩ v') ∧ Below Bw W (W2.setCell ⟨Bw, 3, none⟩ v') := by
  have hb : Below (Bw + 1) W W2 := ((Below.refl (Bw + 1) W).alloc (by omega) o).grown hgr (by simp; omega) (fun k hk => (h6.lt k hk).1)
  have hx : ∀ k, W2.cell? ⟨Bw, k, none⟩ = W.cell? ⟨Bw, k, none⟩ := fun k => hb.cell (p := ⟨Bw, k, none⟩) (Nat.lt_succ_self _)
  have hf : W2.frozen? ⟨Bw, 3, none⟩ = W.frozen? ⟨Bw, 3, none⟩ := hb.frozen (p := ⟨Bw, 3, none⟩) (Nat.lt_succ_self _)
  have hc : ∀ k, k ≠ 3 → (W2.setCell ⟨Bw, 3, none⟩ v').cell? ⟨Bw, k, none⟩ = W.cell? ⟨Bw, k, none⟩ := fun k hk => (World.cell?_setCell_other _ _ _ _ (fun e => hk (Addr.mk.inj e).2.1.symm)).trans (hx k)
  refine ⟨⟨(hx 3).trans h4, hf.trans h5⟩, ⟨v', ?_, (hc 0 (by omega)).trans h1, (hc 1 (by omega)).trans h2, (hc 2 (by omega)).trans h3, World.cell?_setCell_same _ _ _ ((hx 3).trans h4), (World.frozen?_setCell _ _ _ _).trans (hf.trans h5), ?_⟩, (hb.mono (Nat.le_succ Bw)).setCell (p := ⟨Bw, 3, none⟩) (Nat.le_refl _) _⟩
  · have := hb.size
    simp [World.setCell]; omega
  · have := ownsRow_setCell_below ho2 (a := ⟨Bw, 3, none⟩) (Nat.lt_succ_self _) v'
    simpa [callsL, List.flatMap_append] using this


set_option maxHeartbeats 1000000 in
theorem watchedLess (Bw i j : Nat) (A0 : Option Addr) (n cap : Nat) (sz : Int) (A : Option Addr) (m c : Nat) (l : Log) (b : Bool) (W : World) (Q : World → Prop) (hl : l.length ≤ 5864062014804)
    (hL : LogB Bw (.slice A0 n cap) (.int .i64 sz) (.slice A m c) l W)
    (hC : ∀ W2, LogB Bw (.slice A0 n cap) (.int .i64 sz) (.slice A m c) (l ++ [(2, i, j)]) W2 → Below Bw W W2 → Calls Try.prog 172 #[.agg #[.slice A0 n cap, .int .i64 sz, .slice A m c], .int .i64 i, .int .i64 j] W2 fun e w' => e = .returned (.bool b) ∧ Q w') :
    Calls Try.prog 175 #[.pointer (some ⟨Bw, 0, none⟩), .int .i64 i, .int .i64 j] W fun e w' => e = .returned (.bool b) ∧ Q w' := by
  obtain ⟨i0, hi0, hz0, hz1, hz2⟩ := info_parts infoCall
  obtain ⟨v, h0, h1, h2, h3, h4, h5, h6⟩ := hL
  have HC := Lib.hid hC; have HO := Lib.hid h6
  clear hC h6
  go_enter Try.func175, Try.ntmps175
  go_wp2_with (at_builtin; refine wpList_append_own _ rfl _ _ 40 rfl (Bw + 1) 163 i0 (.agg #[.int .i64 0, .int .i64 0, .int .i64 0]) 3 24 Try.underlying40 hi0 hz0 hz1 hz2 rfl (by decide) _ _ _ rfl (HO.out.alloc _) ⟨W.heap.size, 0, none⟩ 1 1 (callV (2, i, j)) rfl rfl ?c1 ?c2 ?c3 ?c4 ?c5 ?_)
  case c1 => exact cell_three_new _ _ _ _ _ rfl
  case c2 => simp [callV, Value.oneCell']
  case c3 => simp only [maxLen]; omega
  case c4 => omega
  case c5 => simp; omega
  intro v' W2 ho2 hg2 _
  obtain ⟨gv, cv, hv', _⟩ := ho2.form (by omega)
  rw [hv'] at ho2 ⊢
  clear hv'
  obtain ⟨⟨c0, c1⟩, hA, hB⟩ := logB_step h0 h1 h2 h3 h4 h5 HO.out ho2 hg2
  obtain ⟨_, _, y0, y1, y2, _⟩ := id hA
  have HA := Lib.hid (HC.out _ hA hB)
  clear hA hB hg2 ho2 HC h1 h2 h3 h4 h5 HO
  go_wp2_with fail
  refine HA.out.mono ?_
  rintro e w' ⟨rfl, hQ⟩
  have HQ := Lib.hid hQ; clear hQ
  go_wp2_with fail
  go_ret
  exact ⟨rfl, HQ.out⟩

set_option maxHeartbeats 1000000 in
theorem watchedSwap (Bw i j : Nat) (A0 : Option Addr) (n cap : Nat) (sz : Int) (A : Option Addr) (m c : Nat) (l : Log) (W : World) (Q : World → Prop) (hl : l.length ≤ 5864062014804)
    (hL : LogB Bw (.slice A0 n cap) (.int .i64 sz) (.slice A m c) l W)
    (hC : ∀ W2, LogB Bw (.slice A0 n cap) (.int .i64 sz) (.slice A m c) (l ++ [(3, i, j)]) W2 → Below Bw W W2 → Calls Try.prog 173 #[.agg #[.slice A0 n cap, .int .i64 sz, .slice A m c], .int .i64 i, .int .i64 j] W2 fun e w' => e = .returned (.tuple #[]) ∧ Q w') :
    Calls Try.prog 176 #[.pointer (some ⟨Bw, 0, none⟩), .int .i64 i, .int .i64 j] W fun e w' => e = .returned (.tuple #[]) ∧ Q w' := by
  obtain ⟨i0, hi0, hz0, hz1, hz2⟩ := info_parts infoCall
  obtain ⟨v, h0, h1, h2, h3, h4, h5, h6⟩ := hL
  have HC := Lib.hid hC; have HO := Lib.hid h6
  clear hC h6
  go_enter Try.func176, Try.ntmps176
  go_wp2_with (at_builtin; refine wpList_append_own _ rfl _ _ 40 rfl (Bw + 1) 163 i0 (.agg #[.int .i64 0, .int .i64 0, .int .i64 0]) 3 24 Try.underlying40 hi0 hz0 hz1 hz2 rfl (by decide) _ _ _ rfl (HO.out.alloc _) ⟨W.heap.size, 0, none⟩ 1 1 (callV (3, i, j)) rfl rfl ?c1 ?c2 ?c3 ?c4 ?c5 ?_)
  case c1 => exact cell_three_new _ _ _ _ _ rfl
  case c2 => simp [callV, Value.oneCell']
  case c3 => simp only [maxLen]; omega
  case c4 => omega
  case c5 => simp; omega
  intro v' W2 ho2 hg2 _
  obtain ⟨gv, cv, hv', _⟩ := ho2.form (by omega)
  rw [hv'] at ho2 ⊢
  clear hv'
  obtain ⟨⟨c0, c1⟩, hA, hB⟩ := logB_step h0 h1 h2 h3 h4 h5 HO.out ho2 hg2
  obtain ⟨_, _, y0, y1, y2, _⟩ := id hA
  have HA := Lib.hid (HC.out _ hA hB)
  clear hA hB hg2 ho2 HC h1 h2 h3 h4 h5 HO
  go_wp2_with fail
  refine HA.out.mono ?_
  rintro e w' ⟨rfl, hQ⟩
  have HQ := Lib.hid hQ; clear hQ
  go_wp2_with fail
  go_end0
  exact ⟨rfl, HQ.out⟩

set_option maxHeartbeats 1000000 in
theorem watchedLen (Bw : Nat) (A0 : Option Addr) (n cap : Nat) (sz : Int) (A : Option Addr) (m c : Nat) (l : Log) (W : World) (hl : l.length ≤ 5864062014804)
    (hL : LogB Bw (.slice A0 n cap) (.int .i64 sz) (.slice A m c) l W) :
    Calls Try.prog 174 #[.pointer (some ⟨Bw, 0, none⟩)] W fun e w' => e = .returned (.int .i64 n) ∧ LogB Bw (.slice A0 n cap) (.int .i64 sz) (.slice A m c) (l ++ [(1, 0, 0)]) w' ∧ Below Bw W w' := by
  obtain ⟨i0, hi0, hz0, hz1, hz2⟩ := info_parts infoCall
  obtain ⟨v, h0, h1, h2, h3, h4, h5, h6⟩ := hL
  have HO := Lib.hid h6
  clear h6
  go_enter Try.func174, Try.ntmps174
  go_wp2_with (at_builtin; refine wpList_append_own _ rfl _ _ 40 rfl (Bw + 1) 163 i0 (.agg #[.int .i64 0, .int .i64 0, .int .i64 0]) 3 24 Try.underlying40 hi0 hz0 hz1 hz2 rfl (by decide) _ _ _ rfl (HO.out.alloc _) ⟨W.heap.size, 0, none⟩ 1 1 (callV (1, 0, 0)) rfl rfl ?c1 ?c2 ?c3 ?c4 ?c5 ?_)
  case c1 => exact cell_three_new _ _ _ _ _ rfl
  case c2 => simp [callV, Value.oneCell']
  case c3 => simp only [maxLen]; omega
  case c4 => omega
  case c5 => simp; omega
  intro v' W2 ho2 hg2 _
  obtain ⟨gv, cv, hv', _⟩ := ho2.form (by omega)
  rw [hv'] at ho2 ⊢
  clear hv'
  obtain ⟨⟨c0, c1⟩, hA, hB⟩ := logB_step h0 h1 h2 h3 h4 h5 HO.out ho2 hg2
  obtain ⟨_, hsz', y0, y1, y2, _⟩ := id hA
  have HA := Lib.hid (And.intro hA hB)
  have HN := Lib.hid (fun w' => orderedLen A0 n cap sz A m c w')
  clear hA hB hg2 ho2 h1 h2 h3 h4 h5 HO
  go_wp2_with fail
  refine (HN.out _).mono ?_
  rintro e w' ⟨rfl, hb⟩
  have HQ := Lib.hid (And.intro (HA.out.1.keep hb) (HA.out.2.trans (hb.mono (by omega)))); clear hb
  go_wp2_with fail
  go_ret
  exact ⟨rfl, HQ.out⟩
end Go.Proofs.Ytjammaglboehcaa
