/-
  Words for relations (a size and a list of answers), how an argument's reading gives them, and copies of slices. No program is named here.
-/
import Derived.Test.YtjammaglboehcaaWords
import Derived.Laws.AppendOwnNone
namespace Go.Proofs.Ytjammaglboehcaa
open Go.RowKit Go.Deep Go.ChangeShapes Go.WideShapes

/-- What a relation of m answers f answers for a and b. -/
def relB (sz : Int) (m : Nat) (f : Nat → Bool) (a b : Int) : Bool := decide (0 ≤ a ∧ 0 ≤ b ∧ a < sz ∧ b < sz ∧ a * sz + b < (m : Int)) && f (a * sz + b).toNat

theorem relB_true {sz : Int} {m : Nat} {f : Nat → Bool} {a b : Int} (h : 0 ≤ a ∧ 0 ≤ b ∧ a < sz ∧ b < sz ∧ a * sz + b < (m : Int)) : relB sz m f a b = f (a * sz + b).toNat := by
  unfold relB; rw [decide_eq_true h]; rfl
theorem relB_false {sz : Int} {m : Nat} {f : Nat → Bool} {a b : Int} (h : ¬ (0 ≤ a ∧ 0 ≤ b ∧ a < sz ∧ b < sz ∧ a * sz + b < (m : Int))) : relB sz m f a b = false := by
  unfold relB; rw [decide_eq_false h]; rfl

/-- The value of a relation. -/
def ordV (sz : Int) (A : Option Addr) (m c : Nat) : Value := .agg #[.int .i64 sz, .slice A m c]

section
variable {H : Type} {enc : TypeId × Value → H} {P : Program} {w : World}

theorem in_order {t ti tb te : TypeId} {f0 f1 : Field} {r : Reach} {base : Nat} {v : Value} {d : DataW H} {p : List MemPlace}
    (ht : P.underlying t = some (.struct #[f0, f1])) (h01 : (f0.type, f1.type, f0.offset, f1.offset) = (ti, tb, 0, 1)) (hC : (P.cellsOf t, P.cellsOf ti, P.cellsOf tb) = (2, 1, 1))
    (hi : P.underlying ti = some (.int .i64)) (hb : P.underlying tb = some (.slice te)) (he : P.underlying te = some .bool) (hce : P.cellsOf te = 1)
    (hval : Value.okWide P w r base t v) (h : DataW.Trod enc P w 0 (fun _ => true) true t v d p) :
    ∃ (sz : Int) (A : Option Addr) (n c : Nat) (d1 : DataW H), v = .agg #[.int .i64 sz, .slice A n c] ∧ I64 sz ∧ d = .agg [.lit (.int .i64 sz), d1] ∧ n ≤ c ∧ ∃ f : Nat → Bool, Rd w w.heap.size Value.bool A n f ∧ Room A c d1 := by
  simp only [Prod.mk.injEq] at h01 hC
  obtain ⟨t0, t1, o0, o1⟩ := h01
  obtain ⟨ct, ci, cb⟩ := hC
  obtain ⟨cs, rfl, hcs⟩ := okWide_struct ht hval
  obtain ⟨fuel, hf⟩ := h
  obtain ⟨xs, k', _, hxs, hlen, hxl, hg⟩ := DataW.trod_struct ht hf
  have hsz : cs.toList.length = 2 := by simp [hcs, ct]
  obtain ⟨cs⟩ := cs
  match cs, hsz with
  | [c0, c1], _ =>
    match xs, hxl with
    | [y0, y1], _ =>
      have g0 := hg 0 f0 rfl
      have g1 := hg 1 f1 rfl
      rw [t0, o0, ci] at g0
      rw [t1, o1, cb] at g1
      simp only [Prod.mk.injEq] at hxs
      obtain ⟨x, hx0, hy0, wx⟩ := DataW.trod_int hi (show DataW.trod enc P w 0 (fun _ => true) true k' ti [c0] = some y0 from g0)
      have g1' : DataW.trod enc P w 0 (fun _ => true) true k' tb [c1] = some y1 := g1
      obtain ⟨A, n, c, hc1⟩ : ∃ A n c, c1 = .slice A n c := by
        rcases open_slice hb g1' with ⟨h1, _⟩ | ⟨a, len, cap, _, _, _, _, h1, _⟩
        · exact ⟨none, 0, 0, by simpa using h1⟩
        · exact ⟨some a, len, cap, by simpa using h1⟩
      subst hc1
      obtain ⟨f, hl, hrd, hrm⟩ := in_bools hb he hce (⟨k', g1'⟩ : DataW.Trod enc P w 0 (fun _ => true) true tb (.slice A n c) y1.1 y1.2)
      simp only [List.cons.injEq, and_true] at hx0
      subst hx0
      exact ⟨x, A, n, c, y1.1, rfl, i64_of_wf wx, by rw [hxs.1, hy0]; rfl, hl, f, hrd, hrm⟩

theorem order_reach {ts : List TypeId} {ds : List (DataW H)} (h : (DataW.weightsEach P ts ds).all (· ≤ reachBytes) = true) {j : Nat} {t tb te : TypeId} {f0 f1 : Field} {A : Option Addr} {c : Nat} {d0 d1 : DataW H}
    (ht : ts[j]? = some t) (hd : ds[j]? = some (.agg [d0, d1])) (hu : P.underlying t = some (.struct #[f0, f1])) (h1 : (f1.type, P.bytesOf te) = (tb, 1)) (hub : P.underlying tb = some (.slice te)) (hr : Room A c d1) : c ≤ 140737488351232 := by
  simp only [Prod.mk.injEq] at h1
  rcases hr with ⟨_, rfl, _⟩ | ⟨es, sp, rfl, rfl⟩
  · omega
  · have := List.all_eq_true.1 h _ (DataW.weights_mem_each ht hd ((es.length + sp.length) * P.bytesOf te) (by simp [DataW.weights, DataW.weightsEach, hu, hub, h1.1]))
    rw [h1.2] at this
    simpa [reachBytes] using this
end

/-- A box that was made ahead of a call. -/
theorem box_keep {w w1 : World} {cs : Array Value} {t : TypeId} (hb : Below (w.alloc (.cells cs t)).heap.size (w.alloc (.cells cs t)) w1) (i : Nat) {v : Value} (h : cs[i]? = some v) : w1.cell? ⟨w.heap.size, i, none⟩ = some v := by
  rw [hb.cell (p := ⟨w.heap.size, i, none⟩) (by simp), World.cell?_alloc_at _ _ _ _ rfl]
  exact h

/-! ### append of a whole slice to nil -/

/-- A copy: nil if there is nothing to copy, or a block of its own. -/
def Copied (w : World) (t : TypeId) (sz : Nat) (F : Nat → Value) (v : Value) (m : Nat) (w' : World) : Prop :=
  (∃ G : Nat → Value, OwnRow w' w.heap.size t sz v m G ∧ ∀ j, j < m * sz → G j = F j) ∧ Below w.heap.size w w'

theorem below_grown {w w' : World} (h : w.grownBy w' none) : Below w.heap.size w w' := ⟨h.os, h.tape, h.output, h.size, fun k hk => h.block k hk (by simp)⟩

theorem wpList_copy_nil {P : Program} {w : World} {ops : Array Oper} {rest : List Oper} {o : Oper} {a : Act} {Q : Exit → Act → World → Prop} (hgd : o.guard = none) (s x : Operand) (t : TypeId)
    (ho : o.op = .call { callee := .builtin .append, args := #[s, x], argTypes := #[t, t] })
    (e : TypeId) (i : TypeInfo) (z : Value) (size bytes : Nat) (ht : P.underlying t = some (.slice e)) (hi : P.info? e = some i) (hz : i.zero = some z)
    (hsize : i.size = size) (hby : i.bytes = bytes) (hzs : z.cells.size = size) (hsz : 0 < size)
    (A : Option Addr) (m c : Nat) (F : Nat → Value) (hs : a.eval s = .slice none 0 0) (hx : a.eval x = .slice A m c)
    (hrd : 0 < m → ∃ b off, A = some ⟨b, off, none⟩ ∧ ∀ j, j < m * size → w.cell? ⟨b, off + j, none⟩ = some (F j)) (h1 : ∀ j, j < m * size → (F j).oneCell' = true)
    (hml : m ≤ maxLen) (hbytes : m * bytes ≤ 140737488355328)
    (h : ∀ v' w', Copied w e size F v' m w' → wpList P ops Q rest (a.put o.dst v') w') : wpList P ops Q (o :: rest) a w := by
  by_cases hm : m = 0
  · subst hm
    refine wpList_plain hgd fun K hK => ?_
    have hrun : (Builtin.append_ #[t, t] o.type #[.slice none 0 0, .slice A 0 c]).run P w = .ok (.slice none 0 0) w := by
      cases A <;> simp [Builtin.append_, run_underlying ht, sizeOf, typeInfo, hi, Builtin.lenOf, Builtin.firstCells, loadCells, loadCellsFrom]
    unfold Oper.wp
    simp [execOp, ho, resolve, invoke, builtin, hs, hx, hrun, Result.andThen]
    exact hK _ _ (h _ _ ⟨⟨F, .inl ⟨rfl, rfl⟩, fun j hj => rfl⟩, Below.refl _ _⟩)
  · obtain ⟨b, off, rfl, hc⟩ := hrd (by omega)
    refine wpList_append_own w hgd s x t ho w.heap.size e i z size bytes ht hi hz hsize hby hzs hsz (.slice none 0 0) 0 [] hs (World.ownsRow_nil _ _ _ _) ⟨b, off, none⟩ m c ((List.range (m * size)).map F) hx (by simp)
      (fun j u hu => ?_) (fun u hu => ?_) (by omega) (by rw [Nat.zero_add]; exact hbytes) (Nat.le_refl _) fun v' w' hown hgr _ => h v' w' ?_
    · rw [List.getElem?_map] at hu
      rcases Nat.lt_or_ge j (m * size) with hj | hj
      · rw [List.getElem?_range hj] at hu
        simp only [Option.map_some, Option.some.injEq] at hu
        subst hu
        rw [Go.WideShapes.add_plain]; exact hc j hj
      · rw [List.getElem?_eq_none (by simpa using hj)] at hu; simp at hu
    · obtain ⟨j, hj, rfl⟩ := List.mem_map.1 hu
      exact h1 j (List.mem_range.1 hj)
    · rw [Nat.zero_add, List.nil_append] at hown
      obtain ⟨G, hG, hF⟩ := OwnRow.of_own hown
      exact ⟨⟨G, hG, fun j hj => hF j _ (by rw [List.getElem?_map, List.getElem?_range hj]; rfl)⟩, below_grown hgr⟩
end Go.Proofs.Ytjammaglboehcaa
