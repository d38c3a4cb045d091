/-
  A row of the call's own behind the library's sort. No program is named here.
-/
import Derived.Test.YtjammaglboehcaaPlL
import Derived.Test.YtjammaglboehcaaCpyS
import Derived.Sort.Grow
namespace Go.Proofs.Ytjammaglboehcaa
open Go.RowKit Go.Proofs Go.Sort
set_option linter.unusedVariables false

section
variable {α : Type} [Inhabited α]
theorem rowIs_put (enc : α → Value) {w : World} {g len : Nat} {t : TypeId} {F : Nat → Value} (h : w.rowIs g t len F) (d : Array α) (m : Nat) (os : Array Obj) :
    (grow (putRow enc (Sort.ahead w m) g 0 d) os).rowIs g t len (fun k => if k < d.size then enc d[k]! else F k) := by
  obtain ⟨cur, hg, hs, hF⟩ := h
  have hlt : g < w.heap.size := (Array.getElem?_eq_some_iff.1 hg).1
  refine ⟨putCells enc 0 d cur, ?_, by simp [putCells, hs], fun i hi => ?_⟩
  · rw [heap_grow_old _ _ (by simpa using hlt)]
    simp [putRow, mapBlock, Sort.ahead, Array.getElem?_modify, hg, onCells]
  · have := hF i hi
    simp only [putCells, Array.getElem?_mapIdx, this, Option.map_some]
    by_cases c : i < d.size
    · rw [if_pos ⟨Nat.zero_le _, by omega⟩, if_pos c, Nat.sub_zero]
    · rw [if_neg (fun q => c (by omega)), if_neg c]
theorem below_put (enc : α → Value) (w : World) (g : Nat) (d : Array α) (m : Nat) (os : Array Obj) (hg : g < w.heap.size) : Below g w (grow (putRow enc (Sort.ahead w m) g 0 d) os) := by
  refine ⟨rfl, rfl, rfl, by simp, fun k hk => ?_⟩
  by_cases hs : k < w.heap.size
  · rw [heap_grow_old _ _ (by simpa using hs)]
    have : g ≠ k := by omega
    simp [putRow, mapBlock, Sort.ahead, Array.getElem?_modify, this]
  · omega
theorem holds_row (enc : α → Value) {w : World} {g len : Nat} {t : TypeId} {F : Nat → Value} (h : w.rowIs g t len F) (l : List α) (hl : l.length ≤ len) (hF : ∀ k x, l[k]? = some x → F k = enc x) : Holds enc w g 0 l.toArray := fun j hj => by
  have hj' : j < l.length := by simpa using hj
  refine ⟨?_, by rw [Nat.zero_add]; exact h.frozen j⟩
  rw [Nat.zero_add, h.cell (by omega), hF j l[j] (List.getElem?_eq_getElem hj')]
  simp [hj']
end
end Go.Proofs.Ytjammaglboehcaa
