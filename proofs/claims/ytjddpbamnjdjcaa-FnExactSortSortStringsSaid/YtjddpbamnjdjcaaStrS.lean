/-
  The contracts of the exact laws' helpers at []string: a copy, equality, marks and their reading.
-/
import Derived.Test.YtjddpbamnjdjcaaProg
import Derived.Test.YtjddpbamnjdjcaaWords
namespace Go.Proofs.Ytjddpbamnjdjcaa
open Go.RowKit Go.Proofs
set_option linter.unusedVariables false

theorem infoStr : (Try.prog.info? 9).map (fun i => (i.zero, i.size, i.bytes)) = some (some (.string ByteArray.empty), 1, 16) := by kernel_rfl

/-- A new list that holds f. -/
def NewStrs (w : World) (n : Nat) (f : Nat → ByteArray) (e : Ending) (w' : World) : Prop :=
  ∃ g, e = .returned (.slice (some ⟨g, 0, none⟩) n n) ∧ w.heap.size ≤ g ∧ w'.rowIs g 9 n (fun i => .string (f i)) ∧ Below w.heap.size w w'

set_option maxHeartbeats 1000000 in
theorem toStringS (n c : Nat) (A : Option Addr) (f : Nat → ByteArray) (w : World) (B : Nat) (hB : B ≤ w.heap.size) (hn : n * 16 ≤ 281474976710656) (hrd : Rd w B Value.string A n f) :
    Calls Try.prog 22 #[.slice A n c] w (NewStrs w n f) := by
  have hmk := run_make_row' (P := Try.prog) 27 9 (.string ByteArray.empty) 16 Try.underlying27 infoStr rfl .i64 .i64 n (by omega) (by omega)
  have HR := Lib.hid hrd; clear hrd
  go_enter Try.func22, Try.ntmps22
  go_wp2
  go_loopw [4] (fun vi wr => ∃ k : Nat, k ≤ n ∧ vi = .int .i64 k ∧ w.heap.size < wr.heap.size ∧ Hid (wr.rowIs w.heap.size 9 n (fun i => if i < k then .string (f i) else .string ByteArray.empty) ∧ Below w.heap.size w wr)) (fun vi _ => n - (intOf vi).toNat)
  case atStart => exact ⟨0, Nat.zero_le _, rfl, by simp, (World.rowIs_made w _ n _).congr (fun i _ => by simp), (Below.refl _ _).alloc (Nat.le_refl _) _⟩
  case round =>
    clear hmk
    obtain ⟨k, hk, rfl, hsz, HI⟩ := hrel
    by_cases hlt : k < n
    · obtain ⟨b, off, rfl, hbB, hc⟩ := (HR.out.keep HI.out.2 hB).at hlt
      have h1 := HI.out.1.cell hlt
      have h2 := HI.out.1.frozen k
      rw [if_neg (Nat.lt_irrefl k)] at h1
      go_wp2
      go_roundw
      case rel =>
        refine ⟨k + 1, hlt, by go_num, by simpa [World.setCell] using hsz, (HI.out.1.set k _).congr fun i hi => ?_, HI.out.2.setCell (p := ⟨w.heap.size, k, none⟩) (Nat.le_refl _) _⟩
        by_cases e : i = k
        · subst e; simp
        · rw [if_neg e]
          by_cases e2 : i < k
          · rw [if_pos e2, if_pos (by omega)]
          · rw [if_neg e2, if_neg (by omega)]
      case measure => simp [intOf]; omega
    · go_wp2
      go_ret
      exact ⟨w.heap.size, rfl, Nat.le_refl _, HI.out.1.congr fun i hi => by rw [if_pos (by omega)], HI.out.2⟩

theorem bytes_ext {x y : ByteArray} (h : x.toList = y.toList) : x = y := by
  rw [ByteArray.toList_eq, ByteArray.toList_eq] at h
  cases x; cases y
  simp only [ByteArray.mk.injEq]
  exact Array.toList_inj.1 h

/-- Two lists of the same length: whether they agree. -/
def EqTellsSX (n m : Nat) (f g : Nat → ByteArray) (w : World) (e : Ending) (w' : World) : Prop := ∃ b : Bool, e = .returned (.bool b) ∧ (b = true ↔ n = m ∧ ∀ i, i < n → f i = g i) ∧ ∃ q, w' = w.drewN q
/-- Two lists of the same length: whether they agree. -/
def EqTellsSL (n m : Nat) (f g : Nat → ByteArray) (w : World) (e : Ending) (w' : World) : Prop := ∃ b : Bool, e = .returned (.bool b) ∧ (b = true ↔ n = m ∧ ∀ i, i < n → f i = g i) ∧ ∃ q, w' = w.drewN q
set_option maxHeartbeats 1000000 in
theorem eqStringS (n m c d : Nat) (A A' : Option Addr) (f g : Nat → ByteArray) (w : World) (B B' : Nat) (hn : n ≤ 9223372036854775807) (hm : m ≤ 9223372036854775807) (hrd : Rd w B Value.string A n f) (hrd' : Rd w B' Value.string A' m g) :
    Calls Try.prog 24 #[.slice A n c, .slice A' m d] w (EqTellsSX n m f g w) := by
  have HR := Lib.hid hrd; have HR' := Lib.hid hrd'; clear hrd hrd'
  by_cases hnm : n = m
  · subst hnm
    have hne : ((n : Int) != (n : Int)) = false := by simp
    go_enter Try.func24, Try.ntmps24
    go_wp2
    go_loopw [5] (fun vi wr => ∃ k q : Nat, k ≤ n ∧ vi = .int .i64 k ∧ wr = w.drewN q ∧ Hid (∀ i, i < k → f i = g i)) (fun vi _ => n - (intOf vi).toNat)
    case atStart => exact ⟨0, 0, Nat.zero_le _, rfl, rfl, fun i hi => absurd hi (Nat.not_lt_zero _)⟩
    case round =>
      obtain ⟨k, q, hk, rfl, rfl, HI⟩ := hrel
      by_cases hlt : k < n
      · obtain ⟨b, off, rfl, _, hc⟩ := HR.out.at hlt
        obtain ⟨b', off', rfl, _, hc'⟩ := HR'.out.at hlt
        have hkl : (k : Int) < (n : Int) := by omega
        generalize hx : f k = x at hc
        generalize hy : g k = y at hc'
        have HX := Lib.hid hx; have HY := Lib.hid hy; clear hx hy
        by_cases he : x = y
        · subst he
          have hq : (x.toList != x.toList) = false := by simp
          go_wp2
          go_quiet (fail)
          go_wp2
          go_roundw
          case rel => exact ⟨k + 1, _, hlt, by go_num, rfl, fun i hi => by
            rcases Nat.lt_succ_iff_lt_or_eq.1 hi with h | h
            · exact HI.out i h
            · rw [h, HX.out, HY.out]⟩
          case measure => simp [intOf]; omega
        · have hq : (x.toList != y.toList) = true := by
            rw [bne_iff_ne]; intro hh; exact he (bytes_ext hh)
          have hq2 : (x.toList == y.toList) = false := by
            rw [beq_eq_false_iff_ne]; intro hh; exact he (bytes_ext hh)
          have HE := Lib.hid he; clear he
          go_wp2
          go_quiet (fail)
          go_wp2
          go_ret
          exact ⟨false, rfl, ⟨(fun h => by cases h), (fun h => absurd (h.2 k hlt) (by rw [HX.out, HY.out]; exact HE.out))⟩, _, World.drewN_drewN _ _ _⟩
      · go_wp2
        go_ret
        exact ⟨true, rfl, ⟨fun _ => ⟨rfl, fun i hi => HI.out i (by omega)⟩, fun _ => rfl⟩, _, rfl⟩
  · have hne : ((n : Int) != (m : Int)) = true := by rw [bne_iff_ne]; omega
    go_enter Try.func24, Try.ntmps24
    go_wp2
    go_ret
    exact ⟨false, rfl, ⟨(fun h => by cases h), (fun h => absurd h.1 hnm)⟩, 0, rfl⟩

def SomeNum (w : World) (e : Ending) (w' : World) : Prop := ∃ r : Int, e = .returned (.int .i64 r) ∧ w = w'

set_option maxHeartbeats 1000000 in
theorem szStringS (n c : Nat) (A : Option Addr) (f : Nat → ByteArray) (hfs : ∀ i, (f i).size ≤ 9223372036854775807) (w : World) (B : Nat) (hn : n ≤ 140737488351232) (hrd : Rd w B Value.string A n f) :
    Calls Try.prog 20 #[.slice A n c, .int .i64 1048576] w (SomeNum w) := by
  have HR := Lib.hid hrd; clear hrd
  have HFS := Lib.hid hfs; clear hfs
  by_cases hbig : n ≤ 1048576
  · have hz : ¬ ((1048576 : Int) - (n : Int) < 0) := by omega
    go_enter Try.func20, Try.ntmps20
    go_wp2_with fail
    go_loop [1, 5] (fun s1 vi => ∃ (k : Nat) (l : Int), k ≤ n ∧ vi = .int .i64 k ∧ s1 = .int .i64 l ∧ 0 ≤ l ∧ l ≤ 1048576) (fun _ vi => n - (intOf vi).toNat)
    case atStart => exact ⟨0, _, Nat.zero_le _, rfl, rfl, by omega, by omega⟩
    case round =>
      obtain ⟨k, l, hk, rfl, rfl, hl0, hl1⟩ := hrel
      by_cases hlt : k < n
      · obtain ⟨b, off, rfl, _, hc⟩ := HR.out.at hlt
        have hfk := HFS.out k
        generalize f k = y at hc hfk
        by_cases hneg : l - (y.size : Int) < 0
        · go_wp2_with fail
          go_ret
          exact ⟨_, rfl, rfl⟩
        · go_wp2_with fail
          go_round
          case rel => exact ⟨k + 1, _, hlt, by go_num, rfl, by omega, by omega⟩
          case measure => simp [intOf]; omega
      · go_wp2_with fail
        go_ret
        exact ⟨_, rfl, rfl⟩
  · have hz : (1048576 : Int) - (n : Int) < 0 := by omega
    go_enter Try.func20, Try.ntmps20
    go_wp2_with fail
    go_ret
    exact ⟨_, rfl, rfl⟩
end Go.Proofs.Ytjddpbamnjdjcaa
