/-
  Words for memory that the walks of this seat share: a slice that reads as a function of its index, and how an argument's reading gives it. No program is named here.
-/
import Derived.WalkKit
import Derived.WalkSpells
import Derived.WalkLawsBesides
import Derived.Deep.LoopGhost
import Derived.Deep.Strs
import Derived.Deep.Grids
import Derived.Deep.Fields
import Derived.SizedLaws
import Derived.OpenShut
import Derived.Lib.Hide
import Derived.Shelf.Abstract
import Derived.Deep.AppendLies
import Derived.Maps.AppendAt
import Derived.OneCell
import Derived.Deep.OwnRows
import Derived.RegionTactic
import Derived.Deep.QuietTactic
import Derived.BigQuiet
namespace Go.Proofs.Ytjammaglboehcaa
open Go.RowKit Go.Deep Go.ChangeShapes Go.WideShapes

/-- The slice at address A, of n elements of one cell each, holds f 0, f 1, .. and lies below block B. -/
def Rd {α : Type} (w : World) (B : Nat) (enc : α → Value) (A : Option Addr) (n : Nat) (f : Nat → α) : Prop :=
  0 < n → ∃ b off, A = some ⟨b, off, none⟩ ∧ b < B ∧ ∀ i, i < n → w.cell? ⟨b, off + i, none⟩ = some (enc (f i))

section
variable {α : Type} {w w' : World} {B B' n : Nat} {enc : α → Value} {A : Option Addr} {f : Nat → α}
theorem Rd.keep (h : Rd w B enc A n f) (hb : Below B' w w') (hB : B ≤ B') : Rd w' B enc A n f := fun hn => by
  obtain ⟨b, off, hA, hlt, hc⟩ := h hn
  exact ⟨b, off, hA, hlt, fun i hi => (hb.cell (p := ⟨b, off + i, none⟩) (Nat.lt_of_lt_of_le hlt hB)).trans (hc i hi)⟩
theorem Rd.more (h : Rd w B enc A n f) (hB : B ≤ B') : Rd w B' enc A n f := fun hn => by
  obtain ⟨b, off, hA, hlt, hc⟩ := h hn
  exact ⟨b, off, hA, Nat.lt_of_lt_of_le hlt hB, hc⟩
theorem Rd.below (h : Rd w B enc A n f) (hb : Below w.heap.size w w') (hB : B ≤ w.heap.size) : Rd w' B enc A n f := h.keep hb hB
theorem Rd.at (h : Rd w B enc A n f) {i : Nat} (hi : i < n) : ∃ b off, A = some ⟨b, off, none⟩ ∧ b < B ∧ w.cell? ⟨b, off + i, none⟩ = some (enc (f i)) := by
  obtain ⟨b, off, hA, hlt, hc⟩ := h (Nat.lt_of_le_of_lt (Nat.zero_le i) hi)
  exact ⟨b, off, hA, hlt, hc i hi⟩
theorem Rd.none : Rd w B enc A 0 f := fun h => absurd h (Nat.lt_irrefl 0)
theorem Rd.drew (h : Rd w B enc A n f) : Rd w.drew B enc A n f := h
theorem Rd.drewN (h : Rd w B enc A n f) (k : Nat) : Rd (w.drewN k) B enc A n f := h
theorem Rd.alloc (h : Rd w B enc A n f) (hB : B ≤ w.heap.size) (o : Obj) : Rd (w.alloc o) B enc A n f := h.keep ((Below.refl _ _).alloc (Nat.le_refl _) o) hB
theorem Rd.congr {g : Nat → α} (h : Rd w B enc A n f) (he : ∀ i, i < n → f i = g i) : Rd w B enc A n g := fun hn => by
  obtain ⟨b, off, hA, hlt, hc⟩ := h hn
  exact ⟨b, off, hA, hlt, fun i hi => by rw [← he i hi]; exact hc i hi⟩
end

theorem cell_new (W : World) (v : Value) (t : TypeId) : (W.alloc (.cells #[v] t)).cell? ⟨W.heap.size, 0, none⟩ = some v := by
  rw [World.cell?_alloc_at _ _ _ _ (by simp)]; rfl
theorem cell_alloc {W : World} {a : Addr} {v : Value} (o : Obj) (h : W.cell? a = some v) : (W.alloc o).cell? a = some v := by
  rw [World.cell?_alloc_lt _ _ _ (World.block_lt_of_cell? _ _ h)]; exact h
theorem below_drewN {B : Nat} {a w : World} (h : Below B a w) (n : Nat) : Below B a (w.drewN n) := ⟨h.os, h.tape, h.output, h.size, h.block⟩

/-- A quiet call behind draws, in the two forms in which a quiet region asks for it. -/
theorem quiet_more {P : Program} {f : FuncId} {args : Array Value} {w : World} {a n : Nat} {v : Value} (h : Calls P f args (w.drewN (a + n)) fun e w' => e = .returned v ∧ ∃ m, w' = (w.drewN (a + n)).drewN m) :
    Calls P f args (w.drewN (a + n)) fun e w'' => e = .returned v ∧ ∃ m, w'' = w.drewN (a + m) :=
  h.mono fun _ _ ⟨he, m, hm⟩ => ⟨he, n + m, by rw [hm, World.drewN_drewN, Nat.add_assoc]⟩
theorem quiet_one {P : Program} {f : FuncId} {args : Array Value} {w : World} {n : Nat} {v : Value} (h : Calls P f args (w.drewN n) fun e w' => e = .returned v ∧ ∃ m, w' = (w.drewN n).drewN m) :
    Calls P f args (w.drewN n) fun e w'' => e = .returned v ∧ ∃ m, w'' = w.drewN m :=
  h.mono fun _ _ ⟨he, m, hm⟩ => ⟨he, n + m, by rw [hm, World.drewN_drewN]⟩

/-- A slice of the call's own, sz cells an element, n elements: nil, or at the head of a block from B on that holds F. -/
def OwnRow (w : World) (B : Nat) (t : TypeId) (sz : Nat) (v : Value) (n : Nat) (F : Nat → Value) : Prop :=
  (v = .slice none 0 0 ∧ n = 0) ∨ ∃ g cap, v = .slice (some ⟨g, 0, none⟩) n cap ∧ B ≤ g ∧ n ≤ cap ∧ w.rowIs g t (cap * sz) F

theorem rowIs_drewN {w : World} {b : Nat} {t : TypeId} {n : Nat} {f : Nat → Value} (h : w.rowIs b t n f) (k : Nat) : (w.drewN k).rowIs b t n f := h
theorem rowIs_below {w w' : World} {B b : Nat} {t : TypeId} {n : Nat} {f : Nat → Value} (h : w.rowIs b t n f) (hb : Below B w w') (hlt : b < B) : w'.rowIs b t n f := h.of_block (hb.block b hlt)

theorem OwnRow.rd {α : Type} {w : World} {B : Nat} {t : TypeId} {v : Value} {n : Nat} {enc : α → Value} {f : Nat → α} {F : Nat → Value} (h : OwnRow w B t 1 v n F) (hF : ∀ i, i < n → F i = enc (f i)) :
    ∃ A c, v = .slice A n c ∧ Rd w w.heap.size enc A n f := by
  rcases h with ⟨rfl, rfl⟩ | ⟨g, cap, rfl, _, hnc, hr⟩
  · exact ⟨none, 0, rfl, Rd.none⟩
  · exact ⟨_, cap, rfl, fun _ => ⟨g, 0, rfl, hr.lt, fun i hi => by rw [Nat.zero_add, hr.cell (by omega), hF i hi]⟩⟩
theorem OwnRow.keep {w w' : World} {B : Nat} {t : TypeId} {sz : Nat} {v : Value} {n : Nat} {F : Nat → Value} (h : OwnRow w B t sz v n F) (hb : Below w.heap.size w w') : OwnRow w' B t sz v n F := by
  rcases h with h | ⟨g, cap, hv, h1, h2, hr⟩
  · exact .inl h
  · exact .inr ⟨g, cap, hv, h1, h2, rowIs_below hr hb hr.lt⟩
theorem OwnRow.of_own {w : World} {B : Nat} {t : TypeId} {sz : Nat} {v : Value} {n : Nat} {xs : List Value} (h : w.ownsRow B t sz v n xs) : ∃ F : Nat → Value, OwnRow w B t sz v n F ∧ ∀ i x, xs[i]? = some x → F i = x := by
  rcases h.2 with hn | ⟨g, cap, cur, hv, hb, hg, hnc, _, hs, ht⟩
  · refine ⟨fun _ => .bool false, .inl hn, fun i x hx => ?_⟩
    have h1 := h.1
    rw [hn.2] at h1
    have : xs = [] := List.eq_nil_of_length_eq_zero (by omega)
    rw [this] at hx
    simp at hx
  · refine ⟨fun i => cur[i]?.getD (.bool false), .inr ⟨g, cap, hv, hb, hnc, cur, hg, hs, fun i hi => ?_⟩, fun i x hx => ?_⟩
    · show cur[i]? = some (cur[i]?.getD (.bool false))
      rw [Array.getElem?_eq_getElem (by omega)]; rfl
    · rw [← ht, List.getElem?_take] at hx
      split at hx
      · simp only [Array.getElem?_toList] at hx
        show cur[i]?.getD (.bool false) = x
        rw [hx]; rfl
      · cases hx

/-- A number of Go's int. -/
def I64 (x : Int) : Prop := -9223372036854775808 ≤ x ∧ x ≤ 9223372036854775807

theorem i64_of_wf {x : Int} (h : (Lit.int .i64 x).wf = true) : I64 x := by
  simpa [I64, Lit.wf, IntKind.min, IntKind.max, IntKind.signed, IntKind.bits] using h

theorem i64_zero : I64 0 := by unfold I64; omega

/-- What a slice argument reads as, and the room that its reading takes. -/
def Room {H : Type} (A : Option Addr) (c : Nat) (d : DataW H) : Prop := (A = none ∧ c = 0 ∧ d = .nil) ∨ ∃ es sp, d = .slice es sp ∧ es.length + sp.length = c

section
variable {H : Type} {enc : TypeId × Value → H} {P : Program} {w : World}

theorem rd_of_cells {α : Type} {en : α → Value} {a : Addr} {len cap : Nat} {f : Nat → α} (hl : len ≤ cap) (hc : ∀ i, i < cap → w.cell? (a.add i) = some (en (f i))) : Rd w w.heap.size en (some a) len f := fun hn => by
  obtain ⟨b, off, spot⟩ := a
  have h0 := hc 0 (by omega)
  have hspot : spot = Option.none := by simpa [Addr.add] using World.cell?_spot h0
  subst hspot
  refine ⟨b, off, rfl, ?_, fun j hj => by rw [← Go.WideShapes.add_plain]; exact hc j (by omega)⟩
  have := World.block_lt_of_cell? _ _ h0
  simpa [Addr.add] using this

theorem in_ints {t e : TypeId} {A : Option Addr} {n c : Nat} {d : DataW H} {p : List MemPlace} (ht : P.underlying t = some (.slice e)) (he : P.underlying e = some (.int .i64)) (hc : P.cellsOf e = 1)
    (h : DataW.Trod enc P w 0 (fun _ => true) true t (.slice A n c) d p) :
    ∃ f : Nat → Int, (∀ i, I64 (f i)) ∧ n ≤ c ∧ Rd w w.heap.size (Value.int .i64) A n f ∧ Room A c d := by
  obtain ⟨fuel, hf⟩ := h
  rcases open_ints ht he hc hf with ⟨hcs, hx⟩ | ⟨x, l, cc, zs, hcs, _, hl, hm, hz, hx, hcell, hwz⟩
  · simp [Value.cells] at hcs
    obtain ⟨rfl, rfl, rfl⟩ := hcs
    simp only [Prod.mk.injEq] at hx
    exact ⟨fun _ => 0, fun _ => i64_zero, Nat.le_refl _, Rd.none, .inl ⟨rfl, rfl, hx.1⟩⟩
  · simp [Value.cells] at hcs
    obtain ⟨rfl, rfl, rfl⟩ := hcs
    simp only [Prod.mk.injEq] at hx
    simp only [if_true] at hz
    refine ⟨fun i => zs.getD i 0, fun i => ?_, hl, rd_of_cells hl (fun i hi => hcell i (by omega)), .inr ⟨_, _, hx.1, ?_⟩⟩
    · by_cases hi : i < zs.length
      · have : zs.getD i 0 ∈ zs := by rw [List.getD_eq_getElem?_getD, List.getElem?_eq_getElem hi]; exact List.getElem_mem hi
        exact i64_of_wf (hwz _ this)
      · have : zs.getD i 0 = 0 := by rw [List.getD_eq_getElem?_getD, List.getElem?_eq_none (by omega)]; rfl
        simp only [this]; exact i64_zero
    · simp [lits]; omega

theorem in_bools {t e : TypeId} {A : Option Addr} {n c : Nat} {d : DataW H} {p : List MemPlace} (ht : P.underlying t = some (.slice e)) (he : P.underlying e = some .bool) (hc : P.cellsOf e = 1)
    (h : DataW.Trod enc P w 0 (fun _ => true) true t (.slice A n c) d p) :
    ∃ f : Nat → Bool, n ≤ c ∧ Rd w w.heap.size Value.bool A n f ∧ Room A c d := by
  obtain ⟨fuel, hf⟩ := h
  rcases open_bools ht he hc hf with ⟨hcs, hx⟩ | ⟨x, l, cc, f, hcs, _, hl, hm, hx, hcell⟩
  · simp [Value.cells] at hcs
    obtain ⟨rfl, rfl, rfl⟩ := hcs
    simp only [Prod.mk.injEq] at hx
    exact ⟨fun _ => false, Nat.le_refl _, Rd.none, .inl ⟨rfl, rfl, hx.1⟩⟩
  · simp [Value.cells] at hcs
    obtain ⟨rfl, rfl, rfl⟩ := hcs
    simp only [Prod.mk.injEq] at hx
    exact ⟨f, hl, rd_of_cells hl hcell, .inr ⟨_, _, hx.1, by simp; omega⟩⟩

theorem in_strs {t e : TypeId} {A : Option Addr} {n c : Nat} {d : DataW H} {p : List MemPlace} (ht : P.underlying t = some (.slice e)) (he : P.underlying e = some .string) (hc : P.cellsOf e = 1)
    (h : DataW.Trod enc P w 0 (fun _ => true) true t (.slice A n c) d p) :
    ∃ f : Nat → ByteArray, (∀ i, (f i).size ≤ 9223372036854775807) ∧ n ≤ c ∧ Rd w w.heap.size Value.string A n f ∧ Room A c d := by
  obtain ⟨fuel, hf⟩ := h
  rcases open_strs ht he hc hf with ⟨hcs, hx⟩ | ⟨x, l, cc, m, f, hcs, _, hl, hm, hmm, hx, hcell⟩
  · simp [Value.cells] at hcs
    obtain ⟨rfl, rfl, rfl⟩ := hcs
    simp only [Prod.mk.injEq] at hx
    exact ⟨fun _ => ByteArray.empty, fun _ => by simp, Nat.le_refl _, Rd.none, .inl ⟨rfl, rfl, hx.1⟩⟩
  · simp [Value.cells] at hcs
    obtain ⟨rfl, rfl, rfl⟩ := hcs
    simp only [Prod.mk.injEq] at hx
    simp only [if_true] at hmm
    subst hmm
    refine ⟨fun i => if i < m then f i else ByteArray.empty, fun i => ?_, hl, rd_of_cells hl (fun i hi => by rw [if_pos hi]; exact (hcell i hi).1), .inr ⟨_, _, hx.1, by simp; omega⟩⟩
    dsimp only
    split
    · rename_i hi; exact (hcell i hi).2
    · simp

theorem room_reach {ts : List TypeId} {ds : List (DataW H)} (h : (DataW.weightsEach P ts ds).all (· ≤ reachBytes) = true) {j : Nat} {t e : TypeId} {A : Option Addr} {c by_ : Nat} {d : DataW H}
    (ht : ts[j]? = some t) (hd : ds[j]? = some d) (hu : P.underlying t = some (.slice e)) (hby : P.bytesOf e = by_) (hr : Room A c d) : c * by_ ≤ 140737488351232 := by
  rcases hr with ⟨_, rfl, _⟩ | ⟨es, sp, rfl, rfl⟩
  · omega
  · have := sized_slice h ht hd hu
    rw [hby] at this
    exact this
end
end Go.Proofs.Ytjammaglboehcaa
