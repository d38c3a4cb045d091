/-
  The contracts of the exact laws' helpers at []int: a copy, equality, marks and their reading.
-/
import Derived.Test.YtjddpbamnjdjcaaProg
import Derived.Test.YtjddpbamnjdjcaaWords
namespace Go.Proofs.Ytjddpbamnjdjcaa
open Go.RowKit Go.Proofs
set_option linter.unusedVariables false

theorem infoInt : (Try.prog.info? 3).map (fun i => (i.zero, i.size, i.bytes)) = some (some (.int .i64 0), 1, 8) := by kernel_rfl

/-- A new list that holds f. -/
def NewInts (w : World) (n : Nat) (f : Nat → Int) (e : Ending) (w' : World) : Prop :=
  ∃ g, e = .returned (.slice (some ⟨g, 0, none⟩) n n) ∧ w.heap.size ≤ g ∧ w'.rowIs g 3 n (fun i => .int .i64 (f i)) ∧ Below w.heap.size w w'

set_option maxHeartbeats 1000000 in
theorem toIntS (n c : Nat) (A : Option Addr) (f : Nat → Int) (w : World) (B : Nat) (hB : B ≤ w.heap.size) (hn : n * 8 ≤ 281474976710656) (hrd : Rd w B (Value.int .i64) A n f) :
    Calls Try.prog 15 #[.slice A n c] w (NewInts w n f) := by
  have hmk := run_make_row' (P := Try.prog) 22 3 (.int .i64 0) 8 Try.underlying22 infoInt rfl .i64 .i64 n (by omega) (by omega)
  have HR := Lib.hid hrd; clear hrd
  go_enter Try.func15, Try.ntmps15
  go_wp2
  go_loopw [4] (fun vi wr => ∃ k : Nat, k ≤ n ∧ vi = .int .i64 k ∧ w.heap.size < wr.heap.size ∧ Hid (wr.rowIs w.heap.size 3 n (fun i => if i < k then .int .i64 (f i) else .int .i64 0) ∧ Below w.heap.size w wr)) (fun vi _ => n - (intOf vi).toNat)
  case atStart => exact ⟨0, Nat.zero_le _, rfl, by simp, (World.rowIs_made w _ n _).congr (fun i _ => by simp), (Below.refl _ _).alloc (Nat.le_refl _) _⟩
  case round =>
    clear hmk
    obtain ⟨k, hk, rfl, hsz, HI⟩ := hrel
    by_cases hlt : k < n
    · obtain ⟨b, off, rfl, hbB, hc⟩ := (HR.out.keep HI.out.2 hB).at hlt
      have h1 := HI.out.1.cell hlt
      have h2 := HI.out.1.frozen k
      rw [if_neg (Nat.lt_irrefl k)] at h1
      go_wp2
      go_roundw
      case rel =>
        refine ⟨k + 1, hlt, by go_num, by simpa [World.setCell] using hsz, (HI.out.1.set k _).congr fun i hi => ?_, HI.out.2.setCell (p := ⟨w.heap.size, k, none⟩) (Nat.le_refl _) _⟩
        by_cases e : i = k
        · subst e; simp
        · rw [if_neg e]
          by_cases e2 : i < k
          · rw [if_pos e2, if_pos (by omega)]
          · rw [if_neg e2, if_neg (by omega)]
      case measure => simp [intOf]; omega
    · go_wp2
      go_ret
      exact ⟨w.heap.size, rfl, Nat.le_refl _, HI.out.1.congr fun i hi => by rw [if_pos (by omega)], HI.out.2⟩

/-- Two lists of the same length: whether they agree. -/
def EqTellsX (n m : Nat) (f g : Nat → Int) (w : World) (e : Ending) (w' : World) : Prop := ∃ b : Bool, e = .returned (.bool b) ∧ (b = true ↔ n = m ∧ ∀ i, i < n → f i = g i) ∧ ∃ q, w' = w.drewN q
/-- Two lists of the same length: whether they agree. -/
def EqTellsL (n m : Nat) (f g : Nat → Int) (w : World) (e : Ending) (w' : World) : Prop := ∃ b : Bool, e = .returned (.bool b) ∧ (b = true ↔ n = m ∧ ∀ i, i < n → f i = g i) ∧ ∃ q, w' = w.drewN q
set_option maxHeartbeats 1000000 in
theorem eqIntS (n m c d : Nat) (A A' : Option Addr) (f g : Nat → Int) (w : World) (B B' : Nat) (hn : n ≤ 9223372036854775807) (hm : m ≤ 9223372036854775807) (hrd : Rd w B (Value.int .i64) A n f) (hrd' : Rd w B' (Value.int .i64) A' m g) :
    Calls Try.prog 17 #[.slice A n c, .slice A' m d] w (EqTellsX n m f g w) := by
  have HR := Lib.hid hrd; have HR' := Lib.hid hrd'; clear hrd hrd'
  by_cases hnm : n = m
  · subst hnm
    have hne : ((n : Int) != (n : Int)) = false := by simp
    go_enter Try.func17, Try.ntmps17
    go_wp2
    go_loopw [5] (fun vi wr => ∃ k q : Nat, k ≤ n ∧ vi = .int .i64 k ∧ wr = w.drewN q ∧ Hid (∀ i, i < k → f i = g i)) (fun vi _ => n - (intOf vi).toNat)
    case atStart => exact ⟨0, 0, Nat.zero_le _, rfl, rfl, fun i hi => absurd hi (Nat.not_lt_zero _)⟩
    case round =>
      obtain ⟨k, q, hk, rfl, rfl, HI⟩ := hrel
      by_cases hlt : k < n
      · obtain ⟨b, off, rfl, _, hc⟩ := HR.out.at hlt
        obtain ⟨b', off', rfl, _, hc'⟩ := HR'.out.at hlt
        have hkl : (k : Int) < (n : Int) := by omega
        generalize hx : f k = x at hc
        generalize hy : g k = y at hc'
        have HX := Lib.hid hx; have HY := Lib.hid hy; clear hx hy
        by_cases he : x = y
        · subst he
          have hq : (x != x) = false := by simp
          go_wp2
          go_quiet (fail)
          go_wp2
          go_roundw
          case rel => exact ⟨k + 1, _, hlt, by go_num, rfl, fun i hi => by
            rcases Nat.lt_succ_iff_lt_or_eq.1 hi with h | h
            · exact HI.out i h
            · rw [h, HX.out, HY.out]⟩
          case measure => simp [intOf]; omega
        · have hq : (x != y) = true := by rw [bne_iff_ne]; exact he
          have HE := Lib.hid he; clear he
          go_wp2
          go_quiet (fail)
          go_wp2
          go_ret
          exact ⟨false, rfl, ⟨(fun h => by cases h), (fun h => absurd (h.2 k hlt) (by rw [HX.out, HY.out]; exact HE.out))⟩, _, World.drewN_drewN _ _ _⟩
      · go_wp2
        go_ret
        exact ⟨true, rfl, ⟨fun _ => ⟨rfl, fun i hi => HI.out i (by omega)⟩, fun _ => rfl⟩, _, rfl⟩
  · have hne : ((n : Int) != (m : Int)) = true := by rw [bne_iff_ne]; omega
    go_enter Try.func17, Try.ntmps17
    go_wp2
    go_ret
    exact ⟨false, rfl, ⟨(fun h => by cases h), (fun h => absurd h.1 hnm)⟩, 0, rfl⟩
end Go.Proofs.Ytjddpbamnjdjcaa
