/-
  The contracts of the exact laws' helpers at items: a copy, equality, marks and their reading.
-/
import Derived.Test.YtjammaglboehcaaProg
import Derived.Test.YtjammaglboehcaaItm
import Derived.StillTailTactics
import Derived.Laws.MakeOwn
namespace Go.Proofs.Ytjammaglboehcaa
open Go.RowKit Go.Proofs
set_option linter.unusedVariables false

theorem infoItem : (Try.prog.info? 47).map (fun i => (i.zero, i.size, i.bytes)) = some (some (.agg #[.int .i64 0, .int .i64 0]), 2, 16) := by kernel_rfl

/-- make([]impl.Item, n) -/
theorem makeItems (n : Nat) (hn : n * 16 ≤ 281474976710656) (w : World) :
    (Instr.makeSlice 23 (.int .i64 (n : Int)) (.int .i64 (n : Int))).run Try.prog w = .ok (.slice (some ⟨w.heap.size, 0, none⟩) n n) (w.alloc (.cells (madeCells #[.int .i64 0, .int .i64 0] (n * 2)) 47)) := by
  obtain ⟨i, hi, hz, hs, hb⟩ := info_parts infoItem
  have := run_make (P := Try.prog) w 23 47 i _ Try.underlying23 hi hz .i64 .i64 n n (by omega) (Int.le_refl _) (by rw [hb]; omega) (by omega)
  rw [hs, show (Value.agg #[.int .i64 0, .int .i64 0]).cells = #[.int .i64 0, .int .i64 0] from rfl] at this
  simpa using this

theorem rowIs_madeItems (w : World) (n : Nat) (t : TypeId) : (w.alloc (.cells (madeCells #[.int .i64 0, .int .i64 0] (n * 2)) t)).rowIs w.heap.size t (n * 2) (cellI fun _ => (0, 0)) :=
  ⟨_, heap_alloc_new _ _, size_madeCells _ _, fun i hi => by
    unfold cellI
    rcases Nat.mod_two_eq_zero_or_one i with h | h <;> simp [madeCells, hi, h]⟩


/-- A new list that holds the items f. -/
def NewItems (w : World) (n : Nat) (f : Nat → Int × Int) (e : Ending) (w' : World) : Prop :=
  ∃ g, e = .returned (.slice (some ⟨g, 0, none⟩) n n) ∧ w.heap.size ≤ g ∧ w'.rowIs g 47 (n * 2) (cellI f) ∧ Below w.heap.size w w'

theorem cellI_step {f : Nat → Int × Int} {k i : Nat} :
    (if i = k * 2 + 1 then Value.int .i64 (f k).2 else if i = k * 2 then Value.int .i64 (f k).1 else cellI (fun j => if j < k then f j else (0, 0)) i) = cellI (fun j => if j < k + 1 then f j else (0, 0)) i := by
  by_cases h1 : i = k * 2 + 1
  · subst h1; rw [if_pos rfl, cellI_odd, if_pos (by omega)]
  · rw [if_neg h1]
    by_cases h2 : i = k * 2
    · subst h2; rw [if_pos rfl, cellI_even, if_pos (by omega)]
    · rw [if_neg h2]
      unfold cellI
      have e : (i / 2 < k + 1) ↔ (i / 2 < k) := by omega
      simp only [e]




/-- Two lists of items: whether they agree; memory below stays. -/
def EqTellsI (n m : Nat) (f g : Nat → Int × Int) (w : World) (e : Ending) (w' : World) : Prop := ∃ b : Bool, e = .returned (.bool b) ∧ (b = true ↔ n = m ∧ ∀ i, i < n → f i = g i) ∧ Below w.heap.size w w'

end Go.Proofs.Ytjammaglboehcaa
