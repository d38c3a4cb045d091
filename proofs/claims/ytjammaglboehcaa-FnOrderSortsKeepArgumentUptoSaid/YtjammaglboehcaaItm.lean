/-
  Words for slices of items (two numbers each), and how an argument's reading gives them. No program is named here.
-/
import Derived.Test.YtjammaglboehcaaWords
namespace Go.Proofs.Ytjammaglboehcaa
open Go.RowKit Go.Deep Go.ChangeShapes Go.WideShapes

/-- The slice at address A, of n items, holds f 0, f 1, .. and lies below block B. -/
def RdI (w : World) (B : Nat) (A : Option Addr) (n : Nat) (f : Nat → Int × Int) : Prop :=
  0 < n → ∃ b off, A = some ⟨b, off, none⟩ ∧ b < B ∧ ∀ i, i < n → w.cell? ⟨b, off + i * 2, none⟩ = some (.int .i64 (f i).1) ∧ w.cell? ⟨b, off + i * 2 + 1, none⟩ = some (.int .i64 (f i).2)

section
variable {w w' : World} {B B' n : Nat} {A : Option Addr} {f : Nat → Int × Int}
theorem RdI.keep (h : RdI w B A n f) (hb : Below B' w w') (hB : B ≤ B') : RdI w' B A n f := fun hn => by
  obtain ⟨b, off, hA, hlt, hc⟩ := h hn
  exact ⟨b, off, hA, hlt, fun i hi => ⟨(hb.cell (p := ⟨b, off + i * 2, none⟩) (Nat.lt_of_lt_of_le hlt hB)).trans (hc i hi).1, (hb.cell (p := ⟨b, off + i * 2 + 1, none⟩) (Nat.lt_of_lt_of_le hlt hB)).trans (hc i hi).2⟩⟩
theorem RdI.more (h : RdI w B A n f) (hB : B ≤ B') : RdI w B' A n f := fun hn => by
  obtain ⟨b, off, hA, hlt, hc⟩ := h hn
  exact ⟨b, off, hA, Nat.lt_of_lt_of_le hlt hB, hc⟩
theorem RdI.at (h : RdI w B A n f) {i : Nat} (hi : i < n) : ∃ b off, A = some ⟨b, off, none⟩ ∧ b < B ∧ w.cell? ⟨b, off + i * 2, none⟩ = some (.int .i64 (f i).1) ∧ w.cell? ⟨b, off + i * 2 + 1, none⟩ = some (.int .i64 (f i).2) := by
  obtain ⟨b, off, hA, hlt, hc⟩ := h (Nat.lt_of_le_of_lt (Nat.zero_le i) hi)
  exact ⟨b, off, hA, hlt, hc i hi⟩
theorem RdI.none : RdI w B A 0 f := fun h => absurd h (Nat.lt_irrefl 0)
theorem RdI.drewN (h : RdI w B A n f) (k : Nat) : RdI (w.drewN k) B A n f := h
theorem RdI.alloc (h : RdI w B A n f) (hB : B ≤ w.heap.size) (o : Obj) : RdI (w.alloc o) B A n f := h.keep ((Below.refl _ _).alloc (Nat.le_refl _) o) hB
theorem RdI.congr {g : Nat → Int × Int} (h : RdI w B A n f) (he : ∀ i, i < n → f i = g i) : RdI w B A n g := fun hn => by
  obtain ⟨b, off, hA, hlt, hc⟩ := h hn
  exact ⟨b, off, hA, hlt, fun i hi => by rw [← he i hi]; exact hc i hi⟩
end

/-- The cells of items. -/
def cellI (f : Nat → Int × Int) (j : Nat) : Value := if j % 2 = 0 then .int .i64 (f (j / 2)).1 else .int .i64 (f (j / 2)).2
theorem cellI_even (f : Nat → Int × Int) (i : Nat) : cellI f (i * 2) = .int .i64 (f i).1 := by
  unfold cellI; rw [if_pos (by omega), show i * 2 / 2 = i by omega]
theorem cellI_odd (f : Nat → Int × Int) (i : Nat) : cellI f (i * 2 + 1) = .int .i64 (f i).2 := by
  unfold cellI; rw [if_neg (by omega), show (i * 2 + 1) / 2 = i by omega]

theorem rdI_of_row {w : World} {g n m : Nat} {t : TypeId} {f : Nat → Int × Int} {F : Nat → Value} (h : w.rowIs g t m F) (hm : n * 2 ≤ m) (hF : ∀ i, i < n → F (i * 2) = .int .i64 (f i).1 ∧ F (i * 2 + 1) = .int .i64 (f i).2) : RdI w w.heap.size (some ⟨g, 0, .none⟩) n f :=
  fun _ => ⟨g, 0, rfl, h.lt, fun i hi => by
    rw [Nat.zero_add]
    exact ⟨by rw [h.cell (by omega), (hF i hi).1], by rw [h.cell (by omega), (hF i hi).2]⟩⟩

section
variable {H : Type} {enc : TypeId × Value → H} {P : Program} {w : World}

theorem in_items {t e ti : TypeId} {f0 f1 : Field} {A : Option Addr} {n c : Nat} {d : DataW H} {p : List MemPlace} (ht : P.underlying t = some (.slice e)) (he : P.underlying e = some (.struct #[f0, f1]))
    (h01 : (f0.type, f1.type, f0.offset, f1.offset) = (ti, ti, 0, 1)) (hC : (P.cellsOf e, P.cellsOf ti) = (2, 1)) (hi : P.underlying ti = some (.int .i64))
    (h : DataW.Trod enc P w 0 (fun _ => true) true t (.slice A n c) d p) :
    ∃ f : Nat → Int × Int, (∀ i, I64 (f i).1 ∧ I64 (f i).2) ∧ n ≤ c ∧ RdI w w.heap.size A n f ∧ Room A c d ∧ (∀ es sp, d = .slice es sp → ∀ x ∈ es ++ sp, ∃ y z, x = .agg [y, z]) := by
  simp only [Prod.mk.injEq] at h01 hC
  obtain ⟨t0, t1, o0, o1⟩ := h01
  obtain ⟨ce, ci⟩ := hC
  obtain ⟨fuel, hf⟩ := h
  rcases open_slice ht hf with ⟨hcs, hx⟩ | ⟨a, len, cap, m, k, D, Pl, hcs, _, hl, hm, hmm, hx, hel⟩
  · simp [Value.cells] at hcs
    obtain ⟨rfl, rfl, rfl⟩ := hcs
    simp only [Prod.mk.injEq] at hx
    exact ⟨fun _ => (0, 0), fun _ => ⟨i64_zero, i64_zero⟩, Nat.le_refl _, RdI.none, .inl ⟨rfl, rfl, hx.1⟩, fun es sp he => by rw [hx.1] at he; cases he⟩
  · simp [Value.cells] at hcs
    obtain ⟨rfl, rfl, rfl⟩ := hcs
    simp only [Prod.mk.injEq] at hx
    simp only [if_true] at hmm
    subst hmm
    have each : ∀ i, i < m → ∃ xy : Int × Int, (I64 xy.1 ∧ I64 xy.2) ∧ w.cell? (a.add (i * 2)) = some (.int .i64 xy.1) ∧ w.cell? (a.add (i * 2 + 1)) = some (.int .i64 xy.2) ∧ ∃ y z, D i = .agg [y, z] := by
      intro i him
      obtain ⟨cs', hc, htr⟩ := hel i him
      rw [ce] at hc
      obtain ⟨xs, k', _, hxs, hlen, hxl, hg⟩ := DataW.trod_struct he htr
      obtain ⟨_, _, hat⟩ := World.cells?_some hc
      rw [ce] at hlen
      match cs', hlen with
      | [c0, c1], _ =>
        match xs, hxl with
        | [y0, y1], _ =>
          have g0 := hg 0 f0 rfl
          have g1 := hg 1 f1 rfl
          rw [t0, o0, ci] at g0
          rw [t1, o1, ci] at g1
          obtain ⟨x, hx0, _, wx⟩ := DataW.trod_int hi (show DataW.trod enc P w 0 (fun _ => true) true k' ti [c0] = some y0 from g0)
          obtain ⟨y, hy0, _, wy⟩ := DataW.trod_int hi (show DataW.trod enc P w 0 (fun _ => true) true k' ti [c1] = some y1 from g1)
          simp only [List.cons.injEq, and_true] at hx0 hy0
          subst hx0; subst hy0
          have a0 := hat 0 (by omega)
          have a1 := hat 1 (by omega)
          rw [Go.Deep.add_add] at a0 a1
          simp only [Prod.mk.injEq] at hxs
          exact ⟨(x, y), ⟨i64_of_wf wx, i64_of_wf wy⟩, by simpa using a0, by simpa using a1, y0.1, y1.1, by simpa using hxs.1⟩
    obtain ⟨f, hff⟩ := choose_lt each
    refine ⟨fun i => if i < m then f i else (0, 0), fun i => ?_, hl, fun hn => ?_, .inr ⟨_, _, hx.1, by simp; omega⟩, fun es sp hd x hx2 => ?_⟩
    · dsimp only
      split
      · rename_i hi; exact (hff i hi).1
      · exact ⟨i64_zero, i64_zero⟩
    · obtain ⟨b, off, spot⟩ := a
      have h0 := (hff 0 (by omega)).2.1
      have hspot : spot = Option.none := by simpa [Addr.add] using World.cell?_spot h0
      subst hspot
      refine ⟨b, off, rfl, ?_, fun j hj => ?_⟩
      · have := World.block_lt_of_cell? _ _ h0
        simpa [Addr.add] using this
      · have hjm : j < m := by omega
        simp only [if_pos hjm]
        have h1 := (hff j hjm).2
        rw [Go.WideShapes.add_plain, Go.WideShapes.add_plain] at h1
        exact ⟨h1.1, h1.2.1⟩
    · rw [hx.1] at hd
      simp only [DataW.slice.injEq] at hd
      obtain ⟨rfl, rfl⟩ := hd
      rw [List.mem_append, List.mem_map, List.mem_map] at hx2
      rcases hx2 with ⟨j, hj, rfl⟩ | ⟨j, hj, rfl⟩
      · rw [List.mem_range] at hj
        exact (hff j (by omega)).2.2.2
      · rw [List.mem_range] at hj
        exact (hff (n + j) (by omega)).2.2.2
end
end Go.Proofs.Ytjammaglboehcaa
