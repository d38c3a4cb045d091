/-
  The state of a loop that builds a relation's answers in a box.
-/
import Derived.Test.YtkklbnheiganlaaPqE
namespace Go.Proofs.Ytkklbnheiganlaa
open Go.RowKit Go.Proofs
set_option linter.unusedVariables false

def boolsL (gb : Nat → Bool) (k : Nat) : List Value := (List.range k).map (fun i => .bool (gb i))
theorem boolsL_succ (gb : Nat → Bool) (k : Nat) : boolsL gb k ++ [.bool (gb k)] = boolsL gb (k + 1) := by
  unfold boolsL; rw [List.range_succ]; simp
theorem boolsL_get {gb : Nat → Bool} {k i : Nat} (h : i < k) : (boolsL gb k)[i]? = some (.bool (gb i)) := by
  unfold boolsL; rw [List.getElem?_map, List.getElem?_range h]; rfl
/-- The box rb of a relation that is being built: k answers so far. -/
def GrowB (rb : Nat) (sz : Int) (gb : Nat → Bool) (k : Nat) (v : Value) (W : World) : Prop :=
  rb < W.heap.size ∧ W.cell? ⟨rb, 0, none⟩ = some (.int .i64 sz) ∧ W.cell? ⟨rb, 1, none⟩ = some v ∧ W.frozen? ⟨rb, 1, none⟩ = false ∧ W.ownsRow (rb + 1) 4 1 v k (boolsL gb k)
theorem GrowB.step {rb : Nat} {sz : Int} {gb : Nat → Bool} {k : Nat} {v v' : Value} {W W1 W2 : World} (h : GrowB rb sz gb k v W) (hW : Below W.heap.size W W1) (ho : W2.ownsRow (rb + 1) 4 1 v' (k + 1) (boolsL gb k ++ [.bool (gb k)])) (hgr : W1.grownBy W2 v.ownBlock) :
    (W2.cell? ⟨rb, 1, none⟩ = some v ∧ W2.frozen? ⟨rb, 1, none⟩ = false) ∧ GrowB rb sz gb (k + 1) v' (W2.setCell ⟨rb, 1, none⟩ v') ∧ Below rb W (W2.setCell ⟨rb, 1, none⟩ v') := by
  obtain ⟨h0, h1, h2, h3, h4⟩ := h
  have hb : Below (rb + 1) W W2 := (hW.mono (by omega)).grown hgr (by have := hW.size; omega) (fun k hk => (h4.lt k hk).1)
  have hx : ∀ k, W2.cell? ⟨rb, k, none⟩ = W.cell? ⟨rb, k, none⟩ := fun k => hb.cell (p := ⟨rb, k, none⟩) (Nat.lt_succ_self _)
  have hf : W2.frozen? ⟨rb, 1, none⟩ = W.frozen? ⟨rb, 1, none⟩ := hb.frozen (p := ⟨rb, 1, none⟩) (Nat.lt_succ_self _)
  refine ⟨⟨(hx 1).trans h2, hf.trans h3⟩, ⟨?_, (World.cell?_setCell_other _ _ _ _ (fun e => by have := (Addr.mk.inj e).2.1; omega)).trans ((hx 0).trans h1), World.cell?_setCell_same _ _ _ ((hx 1).trans h2), (World.frozen?_setCell _ _ _ _).trans (hf.trans h3), ?_⟩, (hb.mono (Nat.le_succ rb)).setCell (p := ⟨rb, 1, none⟩) (Nat.le_refl _) _⟩
  · have := hb.size
    simp [World.setCell]; omega
  · rw [← boolsL_succ]
    exact ownsRow_setCell_below ho (a := ⟨rb, 1, none⟩) (Nat.lt_succ_self _) v'

end Go.Proofs.Ytkklbnheiganlaa
