/-
  What stands in memory while FnOrderSortsKeepArgument copies its arguments: in whatever order it copies the list, copies the relation and makes a box for it.
-/
import Derived.Test.YtjammaglboehcaaWeak
import Derived.Test.YtjammaglboehcaaCpyS
import Derived.Test.YtjammaglboehcaaOrd2
namespace Go.Proofs.Ytjammaglboehcaa
open Go.RowKit Go.Proofs
set_option linter.unusedVariables false

/-- The slice at A holds f 0, f 1, .. in a block other than b. -/
def RdX {α : Type} (w' : World) (b : Option Nat) (enc : α → Value) (A : Option Addr) (n : Nat) (f : Nat → α) : Prop :=
  0 < n → ∃ k off, A = some ⟨k, off, none⟩ ∧ k < w'.heap.size ∧ b ≠ some k ∧ ∀ i, i < n → w'.cell? ⟨k, off + i, none⟩ = some (enc (f i))
section
variable {α : Type} {w' w2 : World} {b : Option Nat} {enc : α → Value} {A : Option Addr} {n : Nat} {f : Nat → α}
theorem RdX.step (h : RdX w' b enc A n f) (hb : Below w'.heap.size w' w2) : RdX w2 b enc A n f := fun hn => by
  obtain ⟨k, off, hA, hk, hne, hc⟩ := h hn
  exact ⟨k, off, hA, Nat.lt_of_lt_of_le hk hb.size, hne, fun i hi => (hb.cell (p := ⟨k, off + i, none⟩) hk).trans (hc i hi)⟩
theorem RdX.rd (h : RdX w' b enc A n f) : Rd w' w'.heap.size enc A n f := fun hn => by
  obtain ⟨k, off, hA, hk, hne, hc⟩ := h hn
  exact ⟨k, off, hA, hk, hc⟩
theorem RdX.new (h : RdX w' b enc A n f) (o : Obj) : RdX (w'.alloc o) (some w'.heap.size) enc A n f := fun hn => by
  obtain ⟨k, off, hA, hk, hne, hc⟩ := h.step ((Below.refl w'.heap.size w').alloc (Nat.le_refl _) o) hn
  obtain ⟨k', off', hA', hk', _, _⟩ := h hn
  rw [hA] at hA'
  obtain ⟨rfl, rfl⟩ : k = k' ∧ off = off' := by simpa using hA'
  exact ⟨k, off, hA, hk, fun q => by have := Option.some.inj q; omega, hc⟩
theorem RdX.set {x : Nat} (h : RdX w' (some x) enc A n f) (i : Nat) (u : Value) : RdX (w'.setCell ⟨x, i, none⟩ u) (some x) enc A n f := fun hn => by
  obtain ⟨k, off, hA, hk, hne, hc⟩ := h hn
  refine ⟨k, off, hA, by simpa [World.setCell] using hk, hne, fun j hj => ?_⟩
  rw [World.cell?_setCell_other _ _ _ _ (fun e => hne (by rw [(Addr.mk.inj e).1]))]
  exact hc j hj
end

/-- y: where the copy of the list lies; t: where the copy of the relation's answers lies; r: the box for the relation. -/
structure OI (w : World) (sz : Int) (A : Option Addr) (m c n : Nat) (f : Nat → Int) (g : Nat → Bool) (y t : Option (Option Addr)) (r : Option (Nat × Value × Value)) (w' : World) : Prop where
  box : BoxInv w sz A m c w'
  hy : ∀ Ay, y = some Ay → RdX w' (r.map (fun x => x.1)) (Value.int .i64) Ay n f
  ht : ∀ At, t = some At → RdX w' (r.map (fun x => x.1)) Value.bool At m g
  hr : ∀ b x0 x1, r = some (b, x0, x1) → w.heap.size < b ∧ w'.heap[b]? = some (.cells #[x0, x1] 33) ∧ (∀ z, x0 ≠ .bool z) ∧ ∀ z, x1 ≠ .bool z
section
variable {w : World} {sz : Int} {A : Option Addr} {m c n : Nat} {f : Nat → Int} {g : Nat → Bool} {y t : Option (Option Addr)} {r : Option (Nat × Value × Value)} {w' w2 : World} {b : Nat} {x0 x1 : Value}
theorem OI.first (h : BoxInv w sz A m c w') : OI w sz A m c n f g none none none w' := ⟨h, fun _ e => (by cases e), fun _ e => (by cases e), fun _ _ _ e => (by cases e)⟩
theorem OI.step (h : OI w sz A m c n f g y t r w') (hb : Below w'.heap.size w' w2) : OI w sz A m c n f g y t r w2 :=
  ⟨h.box.step hb, fun Ay e => (h.hy Ay e).step hb, fun At e => (h.ht At e).step hb, fun b x0 x1 e => by
    obtain ⟨h1, h2, h3⟩ := h.hr b x0 x1 e
    exact ⟨h1, by rw [hb.block b (lt_of_block h2)]; exact h2, h3⟩⟩
theorem OI.drewN (h : OI w sz A m c n f g y t r w') (q : Nat) : OI w sz A m c n f g y t r (w'.drewN q) := ⟨h.box.drewN q, h.hy, h.ht, h.hr⟩
theorem OI.alloc (h : OI w sz A m c n f g y t none w') : OI w sz A m c n f g y t (some (w'.heap.size, .int .i64 0, .slice none 0 0)) (w'.alloc (.cells #[.int .i64 0, .slice none 0 0] 33)) := by
  have hal := (Below.refl w'.heap.size w').alloc (Nat.le_refl _) (.cells #[.int .i64 0, .slice none 0 0] 33)
  refine ⟨h.box.step hal, fun Ay e => (h.hy Ay e).new _, fun At e => (h.ht At e).new _, fun b x0 x1 e => ?_⟩
  simp only [Option.some.injEq, Prod.mk.injEq] at e
  obtain ⟨rfl, rfl, rfl⟩ := e
  exact ⟨h.box.lt, by unfold World.alloc; simp, fun _ q => (by cases q), fun _ q => (by cases q)⟩
theorem OI.made (h : OI w sz A m c n f g y t none w') (k : Int) (A1 : Option Addr) (m1 c1 : Nat) : OI w sz A m c n f g y t (some (w'.heap.size, .int .i64 k, .slice A1 m1 c1)) (w'.alloc (.cells #[.int .i64 k, .slice A1 m1 c1] 33)) := by
  have hal := (Below.refl w'.heap.size w').alloc (Nat.le_refl _) (.cells #[.int .i64 k, .slice A1 m1 c1] 33)
  refine ⟨h.box.step hal, fun Ay e => (h.hy Ay e).new _, fun At e => (h.ht At e).new _, fun b x0 x1 e => ?_⟩
  simp only [Option.some.injEq, Prod.mk.injEq] at e
  obtain ⟨rfl, rfl, rfl⟩ := e
  exact ⟨h.box.lt, by unfold World.alloc; simp, fun _ q => (by cases q), fun _ q => (by cases q)⟩
theorem OI.r0 (h : OI w sz A m c n f g y t (some (b, x0, x1)) w') : w'.cell? ⟨b, 0, none⟩ = some x0 := by have h2 := (h.hr b x0 x1 rfl).2.1; simp [World.cell?, h2]
theorem OI.r1 (h : OI w sz A m c n f g y t (some (b, x0, x1)) w') : w'.cell? ⟨b, 1, none⟩ = some x1 := by have h2 := (h.hr b x0 x1 rfl).2.1; simp [World.cell?, h2]
theorem OI.f0 (h : OI w sz A m c n f g y t (some (b, x0, x1)) w') : w'.frozen? ⟨b, 0, none⟩ = false := by have h2 := (h.hr b x0 x1 rfl).2.1; simp [World.frozen?, h2]
theorem OI.f1 (h : OI w sz A m c n f g y t (some (b, x0, x1)) w') : w'.frozen? ⟨b, 1, none⟩ = false := by have h2 := (h.hr b x0 x1 rfl).2.1; simp [World.frozen?, h2]
theorem OI.ne (h : OI w sz A m c n f g y t (some (b, x0, x1)) w') : ¬ (w.heap.size = b) ∧ ¬ (b = w.heap.size) := by have h1 := (h.hr b x0 x1 rfl).1; omega
theorem OI.store (h : OI w sz A m c n f g y t (some (b, x0, x1)) w') (k : Int) (A1 : Option Addr) (m1 c1 : Nat) : OI w sz A m c n f g y t (some (b, .int .i64 k, .slice A1 m1 c1)) ((w'.setCell ⟨b, 0, none⟩ (.int .i64 k)).setCell ⟨b, 1, none⟩ (.slice A1 m1 c1)) := by
  obtain ⟨h1, h2, _⟩ := h.hr b x0 x1 rfl
  have hc : ∀ i u (W : World), (W.setCell ⟨b, i, none⟩ u).cell? ⟨w.heap.size, 0, none⟩ = W.cell? ⟨w.heap.size, 0, none⟩ ∧ (W.setCell ⟨b, i, none⟩ u).cell? ⟨w.heap.size, 1, none⟩ = W.cell? ⟨w.heap.size, 1, none⟩ := fun i u W =>
    ⟨World.cell?_setCell_other _ _ _ _ (fun e => by have := (Addr.mk.inj e).1; omega), World.cell?_setCell_other _ _ _ _ (fun e => by have := (Addr.mk.inj e).1; omega)⟩
  refine ⟨⟨(h.box.bel.setCell (p := ⟨b, 0, none⟩) (Nat.le_of_lt h1) _).setCell (p := ⟨b, 1, none⟩) (Nat.le_of_lt h1) _, by have := h.box.lt; simpa [World.setCell] using this, ?_, ?_⟩, fun Ay e => ((h.hy Ay e).set 0 _).set 1 _, fun At e => ((h.ht At e).set 0 _).set 1 _, fun b' y0 y1 e => ?_⟩
  · rw [(hc 1 _ _).1, (hc 0 _ _).1]; exact h.box.c0
  · rw [(hc 1 _ _).2, (hc 0 _ _).2]; exact h.box.c1
  · simp only [Option.some.injEq, Prod.mk.injEq] at e
    obtain ⟨rfl, rfl, rfl⟩ := e
    exact ⟨h1, by simp [World.setCell, Array.getElem?_modify, h2], fun _ q => (by cases q), fun _ q => (by cases q)⟩
theorem OI.app {Ay : Option Addr} {cy : Nat} (h : OI w sz A m c n f g none t r w') (hcp : Copied w' 3 1 (fun j => .int .i64 (f j)) (.slice Ay n cy) n w2) : OI w sz A m c n f g (some Ay) t r w2 := by
  have hs := h.step hcp.2
  refine ⟨hs.box, fun A0 e hn => ?_, hs.ht, hs.hr⟩
  obtain rfl : Ay = A0 := Option.some.inj e
  obtain ⟨G, hG, hF⟩ := hcp.1
  rcases hG with ⟨hv, h0⟩ | ⟨k, cap, hv, hk, hnc, hr⟩
  · omega
  · simp only [Value.slice.injEq] at hv
    refine ⟨k, 0, hv.1, hr.lt, fun q => ?_, fun i hi => by rw [Nat.zero_add, hr.cell (by omega), hF i (by omega)]⟩
    cases r with
    | none => simp at q
    | some x =>
      obtain ⟨b, x0, x1⟩ := x
      obtain rfl : b = k := Option.some.inj q
      have := lt_of_block (h.hr b x0 x1 rfl).2.1
      omega
theorem OI.call {A1 : Option Addr} (h : OI w sz A m c n f g y none r w') (hr1 : Rd w2 w2.heap.size Value.bool A1 m g) (hb : Below w'.heap.size w' w2) : OI w sz A m c n f g y (some A1) r w2 := by
  have hs := h.step hb
  refine ⟨hs.box, hs.hy, fun A0 e hn => ?_, hs.hr⟩
  obtain rfl : A1 = A0 := Option.some.inj e
  obtain ⟨k, off, hA, hk, hc⟩ := hr1 hn
  refine ⟨k, off, hA, hk, fun q => ?_, hc⟩
  cases r with
  | none => simp at q
  | some x =>
    obtain ⟨b, x0, x1⟩ := x
    obtain rfl : b = k := Option.some.inj q
    obtain ⟨_, h2, h3, h4⟩ := hs.hr b x0 x1 rfl
    have h5 := hc 0 hn
    simp only [World.cell?, h2] at h5
    match off, h5 with
    | 0, h5 => exact h3 _ (by simpa using h5)
    | 1, h5 => exact h4 _ (by simpa using h5)
    | off + 2, h5 => simp at h5
end

/-- The memory ahead of the sorts. -/
def KInv (w : World) (sz : Int) (A : Option Addr) (m c n : Nat) (f : Nat → Int) (g : Nat → Bool) (b : Nat) (A1 : Option Addr) (c1 : Nat) (Ay : Option Addr) (B : Nat) (w' : World) : Prop :=
  BoxInv w sz A m c w' ∧ (b < w'.heap.size ∧ w'.cell? ⟨b, 0, none⟩ = some (.int .i64 sz) ∧ w'.cell? ⟨b, 1, none⟩ = some (.slice A1 m c1)) ∧ B ≤ w'.heap.size ∧ Rd w' B Value.bool A1 m g ∧ Rd w' B (Value.int .i64) Ay n f
section
variable {w : World} {sz : Int} {A : Option Addr} {m c n : Nat} {f : Nat → Int} {g : Nat → Bool} {b : Nat} {A1 : Option Addr} {c1 : Nat} {Ay : Option Addr} {B : Nat} {w' w2 : World}
theorem KInv.of (h : OI w sz A m c n f g (some Ay) (some A1) (some (b, .int .i64 sz, .slice A1 m c1)) w') : KInv w sz A m c n f g b A1 c1 Ay w'.heap.size w' :=
  ⟨h.box, ⟨lt_of_block (h.hr _ _ _ rfl).2.1, h.r0, h.r1⟩, Nat.le_refl _, (h.ht _ rfl).rd, (h.hy _ rfl).rd⟩
theorem KInv.step (h : KInv w sz A m c n f g b A1 c1 Ay B w') (hb : Below w'.heap.size w' w2) : KInv w sz A m c n f g b A1 c1 Ay B w2 :=
  ⟨h.1.step hb, ⟨Nat.lt_of_lt_of_le h.2.1.1 hb.size, (hb.cell (p := ⟨b, 0, none⟩) h.2.1.1).trans h.2.1.2.1, (hb.cell (p := ⟨b, 1, none⟩) h.2.1.1).trans h.2.1.2.2⟩, Nat.le_trans h.2.2.1 hb.size, h.2.2.2.1.keep hb h.2.2.1, h.2.2.2.2.keep hb h.2.2.1⟩
theorem KInv.drewN (h : KInv w sz A m c n f g b A1 c1 Ay B w') (q : Nat) : KInv w sz A m c n f g b A1 c1 Ay B (w'.drewN q) := ⟨h.1.drewN q, h.2⟩
end
end Go.Proofs.Ytjammaglboehcaa
