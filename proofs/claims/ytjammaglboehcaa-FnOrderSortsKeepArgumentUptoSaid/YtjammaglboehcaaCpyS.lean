/-
  append of a whole slice to nil, at a step of a region that draws its order. No program is named here.
-/
import Derived.Test.YtjammaglboehcaaOrdW
import Derived.Deep.AppendLies
import Derived.Deep.RegionHeld3
namespace Go.Proofs.Ytjammaglboehcaa
open Go.RowKit Go.Deep Go.ChangeShapes Go.WideShapes

theorem wp_copy_nil {P : Program} {w : World} {o : Oper} {a : Act} {K : Act → World → Prop} {Q : Exit → Act → World → Prop} (s x : Operand) (t : TypeId)
    (ho : o.op = .call { callee := .builtin .append, args := #[s, x], argTypes := #[t, t] })
    (e : TypeId) (i : TypeInfo) (z : Value) (size bytes : Nat) (ht : P.underlying t = some (.slice e)) (hi : P.info? e = some i) (hz : i.zero = some z)
    (hsize : i.size = size) (hby : i.bytes = bytes) (hzs : z.cells.size = size) (hsz : 0 < size)
    (A : Option Addr) (m c : Nat) (F : Nat → Value) (hs : a.eval s = .slice none 0 0) (hx : a.eval x = .slice A m c)
    (hrd : 0 < m → ∃ b off, A = some ⟨b, off, none⟩ ∧ ∀ j, j < m * size → w.cell? ⟨b, off + j, none⟩ = some (F j)) (h1 : ∀ j, j < m * size → (F j).oneCell' = true)
    (hml : m ≤ maxLen) (hbytes : m * bytes ≤ 140737488355328)
    (h : ∀ v' w', Copied w e size F v' m w' → K (a.put o.dst v') w') : o.wp P a w K Q := by
  by_cases hm : m = 0
  · subst hm
    have hrun : (Builtin.append_ #[t, t] o.type #[.slice none 0 0, .slice A 0 c]).run P w = .ok (.slice none 0 0) w := by
      cases A <;> simp [Builtin.append_, run_underlying ht, sizeOf, typeInfo, hi, Builtin.lenOf, Builtin.firstCells, loadCells, loadCellsFrom]
    unfold Oper.wp
    simp [execOp, ho, resolve, invoke, builtin, hs, hx, hrun, Result.andThen]
    exact h _ _ ⟨⟨F, .inl ⟨rfl, rfl⟩, fun j hj => rfl⟩, Below.refl _ _⟩
  · obtain ⟨b, off, rfl, hc⟩ := hrd (by omega)
    refine wp_append_own w s x t ho w.heap.size e i z size bytes ht hi hz hsize hby hzs hsz (.slice none 0 0) 0 [] hs (World.ownsRow_nil _ _ _ _) ⟨b, off, none⟩ m c ((List.range (m * size)).map F) hx (by simp)
      (fun j u hu => ?_) (fun u hu => ?_) (by omega) (by rw [Nat.zero_add]; exact hbytes) (Nat.le_refl _) fun v' w' hown hgr _ => h v' w' ?_
    · rw [List.getElem?_map] at hu
      rcases Nat.lt_or_ge j (m * size) with hj | hj
      · rw [List.getElem?_range hj] at hu
        simp only [Option.map_some, Option.some.injEq] at hu
        subst hu
        rw [Go.WideShapes.add_plain]; exact hc j hj
      · rw [List.getElem?_eq_none (by simpa using hj)] at hu; simp at hu
    · obtain ⟨j, hj, rfl⟩ := List.mem_map.1 hu
      exact h1 j (List.mem_range.1 hj)
    · rw [Nat.zero_add, List.nil_append] at hown
      obtain ⟨G, hG, hF⟩ := OwnRow.of_own hown
      exact ⟨⟨G, hG, fun j hj => hF j _ (by rw [List.getElem?_map, List.getElem?_range hj]; rfl)⟩, below_grown hgr⟩

theorem step_copy_nil {P : Program} {w : World} {ops : Array Oper} {o : Oper} {a : Act} {K : Act → World → Prop} {Q : Exit → Act → World → Prop} {E : Prop} (hgd : o.guard = none) (s x : Operand) (t : TypeId)
    (ho : o.op = .call { callee := .builtin .append, args := #[s, x], argTypes := #[t, t] })
    (e : TypeId) (i : TypeInfo) (z : Value) (size bytes : Nat) (ht : P.underlying t = some (.slice e)) (hi : P.info? e = some i) (hz : i.zero = some z)
    (hsize : i.size = size) (hby : i.bytes = bytes) (hzs : z.cells.size = size) (hsz : 0 < size)
    (A : Option Addr) (m c : Nat) (F : Nat → Value) (hs : a.eval s = .slice none 0 0) (hx : a.eval x = .slice A m c)
    (hrd : 0 < m → ∃ b off, A = some ⟨b, off, none⟩ ∧ ∀ j, j < m * size → w.cell? ⟨b, off + j, none⟩ = some (F j)) (h1 : ∀ j, j < m * size → (F j).oneCell' = true)
    (hml : m ≤ maxLen) (hbytes : m * bytes ≤ 140737488355328)
    (h : ∀ v' w', Copied w e size F v' m w' → K (a.put o.dst v') w') :
    if Region.wanted o (yielded ops a.tmps) = true then Oper.wp P o a w K Q else E := by
  have hw : Region.wanted o (yielded ops a.tmps) = true := by simp [Region.wanted, hgd]
  rw [if_pos hw]
  exact wp_copy_nil s x t ho e i z size bytes ht hi hz hsize hby hzs hsz A m c F hs hx hrd h1 hml hbytes h

/-- What a copy of one-cell elements is good for. -/
theorem Copied.rd {α : Type} {w w' : World} {t : TypeId} {enc : α → Value} {f : Nat → α} {v : Value} {m : Nat} (h : Copied w t 1 (fun j => enc (f j)) v m w') :
    ∃ A c, v = .slice A m c ∧ Rd w' w'.heap.size enc A m f := by
  obtain ⟨⟨G, hG, hF⟩, _⟩ := h
  exact hG.rd (fun i hi => hF i (by omega))

theorem OwnRow.other {w w' : World} {B : Nat} {t : TypeId} {sz : Nat} {v : Value} {n : Nat} {F : Nat → Value} (h : OwnRow w B t sz v n F) (hk : ∀ k, B ≤ k → w'.heap[k]? = w.heap[k]?) : OwnRow w' B t sz v n F := by
  rcases h with h | ⟨g, cap, hv, h1, h2, hr⟩
  · exact .inl h
  · exact .inr ⟨g, cap, hv, h1, h2, hr.of_block (hk g h1)⟩

theorem Copied.rd2 {α : Type} {w w1 w2 : World} {t : TypeId} {enc : α → Value} {f : Nat → α} {A : Option Addr} {m c : Nat} (h : Copied w t 1 (fun j => enc (f j)) (.slice A m c) m w1) (hk : ∀ k, w.heap.size ≤ k → w2.heap[k]? = w1.heap[k]?) :
    Rd w2 w2.heap.size enc A m f := by
  obtain ⟨⟨G, hG, hF⟩, _⟩ := h
  obtain ⟨A', c', he, hr⟩ := (hG.other hk).rd (enc := enc) (f := f) (fun i hi => hF i (by omega))
  simp only [Value.slice.injEq] at he
  obtain ⟨rfl, _, _⟩ := he
  exact hr
end Go.Proofs.Ytjammaglboehcaa
