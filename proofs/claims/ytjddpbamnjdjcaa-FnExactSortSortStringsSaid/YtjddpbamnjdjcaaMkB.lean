/-
  Words for marks that are written into a list of the call's own. No program is named here.
-/
import Derived.Test.YtjddpbamnjdjcaaCpyS
namespace Go.Proofs.Ytjddpbamnjdjcaa
open Go.RowKit Go.Proofs
set_option linter.unusedVariables false

/-- Below every block but g nothing has changed. -/
structure OnlyB (g : Option Nat) (w w' : World) : Prop where
  bel : ∀ B, B ≤ w.heap.size → (∀ k, g = some k → B ≤ k) → Below B w w'
  other : ∀ b, b < w.heap.size → some b ≠ g → w'.heap[b]? = w.heap[b]?
theorem OnlyB.refl (g : Option Nat) (w : World) : OnlyB g w w := ⟨fun _ _ _ => Below.refl _ _, fun _ _ _ => rfl⟩
theorem OnlyB.size {g : Option Nat} {w w' : World} (h : OnlyB g w w') : w.heap.size ≤ w'.heap.size := (h.bel 0 (Nat.zero_le _) (fun _ _ => Nat.zero_le _)).size
theorem OnlyB.set {g : Nat} {w w' : World} (h : OnlyB (some g) w w') (o : Nat) (v : Value) : OnlyB (some g) w (w'.setCell ⟨g, o, none⟩ v) :=
  ⟨fun B hs hB => (h.bel B hs hB).setCell (p := ⟨g, o, none⟩) (hB g rfl) _, fun b hs hb => by
    rw [heap_setCell_other _ _ _ _ (by simpa using fun q => hb (by rw [q]))]; exact h.other b hs hb⟩
theorem OnlyB.below {g : Option Nat} {w w1 w2 : World} (h : OnlyB g w w1) (hb : Below w1.heap.size w1 w2) : OnlyB g w w2 :=
  ⟨fun B hs hB => (h.bel B hs hB).trans (hb.mono (Nat.le_trans hs h.size)),
    fun b hs hne => by rw [hb.block b (Nat.lt_of_lt_of_le hs h.size)]; exact h.other b hs hne⟩
theorem OwnRow.onlyB {w w' : World} {B : Nat} {t : TypeId} {sz : Nat} {v : Value} {n : Nat} {F : Nat → Value} {g : Option Nat} (h : OwnRow w B t sz v n F) (ho : OnlyB g w w') (hg : v.ownBlock = none ∨ v.ownBlock ≠ g) : OwnRow w' B t sz v n F := by
  rcases h with h | ⟨b, cap, rfl, h1, h2, hr⟩
  · exact .inl h
  · refine .inr ⟨b, cap, rfl, h1, h2, hr.of_block (ho.other b hr.lt ?_)⟩
    rcases hg with hg | hg
    · simp [Value.ownBlock] at hg
    · exact hg
theorem OwnRow.lowB {w : World} {B : Nat} {t : TypeId} {sz : Nat} {v : Value} {n : Nat} {F : Nat → Value} (h : OwnRow w B t sz v n F) {k : Nat} (hk : v.ownBlock = some k) : B ≤ k := by
  rcases h with ⟨rfl, _⟩ | ⟨b, cap, rfl, h1, _, _⟩
  · simp [Value.ownBlock] at hk
  · simp only [Value.ownBlock, Option.some.injEq] at hk; omega

/-- What marks write: m k, m (k + 1), .. -/
def markG (m : Nat → Value) (k : Nat) (i : Nat) (F : Nat → Value) (j : Nat) : Value := if j < i then m (k + j) else F j
theorem markG_step (m : Nat → Value) (k i : Nat) (F : Nat → Value) : (fun j => if j = i then m (k + i) else markG m k i F j) = markG m k (i + 1) F := by
  funext j
  unfold markG
  by_cases c : j = i
  · subst c; rw [if_pos rfl, if_pos (by omega)]
  · rw [if_neg c]
    by_cases d : j < i
    · rw [if_pos d, if_pos (by omega)]
    · rw [if_neg d, if_neg (by omega)]

/-- A list of n elements of one cell whose memory is marked. -/
def MarksG (m : Nat → Value) (w : World) (B : Nat) (t : TypeId) (v : Value) (n k : Nat) (e : Ending) (w' : World) : Prop :=
  e = .returned (.int .i64 ((k + n : Nat) : Int)) ∧ (∃ F, OwnRow w' B t 1 v n F ∧ ∀ j, j < n → F j = m (k + j)) ∧ OnlyB v.ownBlock w w'
end Go.Proofs.Ytjddpbamnjdjcaa
