/-
  The contracts of sameInts, sameTexts and sameItems: whether two lists agree.
-/
import Derived.Test.YtjammaglboehcaaProg
import Derived.Test.YtjammaglboehcaaItm
import Derived.Laws.StructEq
namespace Go.Proofs.Ytjammaglboehcaa
open Go.RowKit Go.Proofs
set_option linter.unusedVariables false

/-- Whether two lists agree. -/
def EqTellsG {α : Type} (n m : Nat) (f g : Nat → α) (w : World) (e : Ending) (w' : World) : Prop := ∃ b : Bool, e = .returned (.bool b) ∧ (b = true ↔ n = m ∧ ∀ i, i < n → f i = g i) ∧ ∃ q, w' = w.drewN q

theorem bytes_extG {x y : ByteArray} (h : x.toList = y.toList) : x = y := by
  rw [ByteArray.toList_eq, ByteArray.toList_eq] at h
  cases x; cases y
  simp only [ByteArray.mk.injEq]
  exact Array.toList_inj.1 h

set_option maxHeartbeats 1000000 in
theorem sameInts (n m c d : Nat) (A A' : Option Addr) (f g : Nat → Int) (w : World) (B B' : Nat) (hn : n ≤ 4611686018427387903) (hm : m ≤ 4611686018427387903) (hrd : Rd w B (Value.int .i64) A n f) (hrd' : Rd w B' (Value.int .i64) A' m g) :
    Calls Try.prog 12 #[.slice A n c, .slice A' m d] w (EqTellsG n m f g w) := by
  have HR := Lib.hid hrd; have HR' := Lib.hid hrd'; clear hrd hrd'
  by_cases hnm : n = m
  · subst hnm
    have hne : ((n : Int) != (n : Int)) = false := by simp
    go_enter Try.func12, Try.ntmps12
    go_wp2
    go_loopw [13] (fun vi wr => ∃ k q : Nat, k ≤ n ∧ vi = .int .i64 k ∧ wr = w.drewN q ∧ Hid (∀ i, i < k → f i = g i)) (fun vi _ => n - (intOf vi).toNat)
    case atStart => exact ⟨0, 0, Nat.zero_le _, rfl, rfl, fun i hi => absurd hi (Nat.not_lt_zero _)⟩
    case round =>
      obtain ⟨k, q, hk, rfl, rfl, HI⟩ := hrel
      by_cases hlt : k < n
      · obtain ⟨b, off, rfl, _, hc⟩ := HR.out.at hlt
        obtain ⟨b', off', rfl, _, hc'⟩ := HR'.out.at hlt
        have hkl : (k : Int) < (n : Int) := by omega
        generalize hx : f k = x at hc
        generalize hy : g k = y at hc'
        have HX := Lib.hid hx; have HY := Lib.hid hy; clear hx hy
        by_cases he : x = y
        · subst he
          have hq : (x != x) = false := by simp
          go_wp2
          go_quiet (fail)
          go_wp2
          go_roundw
          case rel => exact ⟨k + 1, _, hlt, by go_num, rfl, fun i hi => by
            rcases Nat.lt_succ_iff_lt_or_eq.1 hi with h | h
            · exact HI.out i h
            · rw [h, HX.out, HY.out]⟩
          case measure => simp [intOf]; omega
        · have hq : (x != y) = true := by rw [bne_iff_ne]; exact he
          have HE := Lib.hid he; clear he
          go_wp2
          go_quiet (fail)
          go_wp2
          go_ret
          exact ⟨false, rfl, ⟨(fun h => by cases h), (fun h => absurd (h.2 k hlt) (by rw [HX.out, HY.out]; exact HE.out))⟩, _, World.drewN_drewN _ _ _⟩
      · go_wp2
        go_ret
        exact ⟨true, rfl, ⟨fun _ => ⟨rfl, fun i hi => HI.out i (by omega)⟩, fun _ => rfl⟩, _, rfl⟩
  · have hne : ((n : Int) != (m : Int)) = true := by rw [bne_iff_ne]; omega
    go_enter Try.func12, Try.ntmps12
    go_wp2
    go_ret
    exact ⟨false, rfl, ⟨(fun h => by cases h), (fun h => absurd h.1 hnm)⟩, 0, rfl⟩


theorem item_eql (x1 x2 y1 y2 : Int) (w : World) : (binOp .eql 47 (.agg #[.int .i64 x1, .int .i64 x2]) (.agg #[.int .i64 y1, .int .i64 y2])).run Try.prog w = .ok (.bool (decide ((x1, x2) = (y1, y2)))) w := by
  have hS : Try.prog.underlying 47 = some (.struct (Try.prog.fieldsOf 47)) := by kernel_rfl
  have hp : Try.prog.stoodInHeld 47 = false := by kernel_rfl
  have u3 := Try.underlying3
  have a3 := Try.isAgg3
  have z3 := Try.sizeOf3
  rw [run_eql_struct, show (10000 : Nat) = 9999 + 1 from rfl, run_equalIn_agg w 9999 47 _ _ hS hp]
  simp only [Program.fieldsOf, Try.underlying47]
  go_simp
  by_cases h1 : x1 = y1 <;> by_cases h2 : x2 = y2 <;> simp [h1, h2]
theorem item_neq (x1 x2 y1 y2 : Int) (w : World) : (binOp .neq 47 (.agg #[.int .i64 x1, .int .i64 x2]) (.agg #[.int .i64 y1, .int .i64 y2])).run Try.prog w = .ok (.bool (!decide ((x1, x2) = (y1, y2)))) w := by
  have hS : Try.prog.underlying 47 = some (.struct (Try.prog.fieldsOf 47)) := by kernel_rfl
  have hp : Try.prog.stoodInHeld 47 = false := by kernel_rfl
  have u3 := Try.underlying3
  have a3 := Try.isAgg3
  have z3 := Try.sizeOf3
  rw [run_neq_struct, show (10000 : Nat) = 9999 + 1 from rfl, run_equalIn_agg w 9999 47 _ _ hS hp]
  simp only [Program.fieldsOf, Try.underlying47]
  go_simp
  by_cases h1 : x1 = y1 <;> by_cases h2 : x2 = y2 <;> simp [h1, h2]

set_option maxHeartbeats 1000000 in
theorem sameItems (n m c d : Nat) (A A' : Option Addr) (f g : Nat → Int × Int) (w : World) (B B' : Nat) (hn : n ≤ 4611686018427387903) (hm : m ≤ 4611686018427387903) (hrd : RdI w B A n f) (hrd' : RdI w B' A' m g) :
    Calls Try.prog 20 #[.slice A n c, .slice A' m d] w (EqTellsG n m f g w) := by
  have HR := Lib.hid hrd; have HR' := Lib.hid hrd'; clear hrd hrd'
  by_cases hnm : n = m
  · subst hnm
    have hne : ((n : Int) != (n : Int)) = false := by simp
    go_enter Try.func20, Try.ntmps20
    go_wp2
    go_loopw [13] (fun vi wr => ∃ k q : Nat, k ≤ n ∧ vi = .int .i64 k ∧ wr = w.drewN q ∧ Hid (∀ i, i < k → f i = g i)) (fun vi _ => n - (intOf vi).toNat)
    case atStart => exact ⟨0, 0, Nat.zero_le _, rfl, rfl, fun i hi => absurd hi (Nat.not_lt_zero _)⟩
    case round =>
      obtain ⟨k, q, hk, rfl, rfl, HI⟩ := hrel
      by_cases hlt : k < n
      · obtain ⟨b, off, rfl, _, hc, hc2⟩ := HR.out.at hlt
        obtain ⟨b', off', rfl, _, hc', hc2'⟩ := HR'.out.at hlt
        have hkl : (k : Int) < (n : Int) := by omega
        generalize hx : f k = x at *
        generalize hy : g k = y at *
        obtain ⟨x1, x2⟩ := x
        obtain ⟨y1, y2⟩ := y
        have HX := Lib.hid hx; have HY := Lib.hid hy; clear hx hy
        dsimp only at hc hc2 hc' hc2'
        have hq := item_neq x1 x2 y1 y2
        have hg : Try.prog.eqGuardType Try.prog.depth 47 = false := by kernel_rfl
        cases he : decide ((x1, x2) = (y1, y2))
        · rw [he] at hq
          have HE := Lib.hid (of_decide_eq_false he); clear he
          go_wp2
          go_quiet (fail)
          go_wp2
          go_ret
          exact ⟨false, rfl, ⟨(fun h => by cases h), (fun h => absurd (h.2 k hlt) (by rw [HX.out, HY.out]; exact HE.out))⟩, _, World.drewN_drewN _ _ _⟩
        · rw [he] at hq
          have HE := Lib.hid (of_decide_eq_true he); clear he
          go_wp2
          go_quiet (fail)
          go_wp2
          go_roundw
          case rel => exact ⟨k + 1, _, hlt, by go_num, rfl, fun i hi => by
            rcases Nat.lt_succ_iff_lt_or_eq.1 hi with h | h
            · exact HI.out i h
            · rw [h, HX.out, HY.out]; exact HE.out⟩
          case measure => simp [intOf]; omega
      · go_wp2
        go_ret
        exact ⟨true, rfl, ⟨fun _ => ⟨rfl, fun i hi => HI.out i (by omega)⟩, fun _ => rfl⟩, _, rfl⟩
  · have hne : ((n : Int) != (m : Int)) = true := by rw [bne_iff_ne]; omega
    go_enter Try.func20, Try.ntmps20
    go_wp2
    go_ret
    exact ⟨false, rfl, ⟨(fun h => by cases h), (fun h => absurd h.1 hnm)⟩, 0, rfl⟩
end Go.Proofs.Ytjammaglboehcaa
