/-
  The walks of markText.
-/
import Derived.Test.YtjddpbamnjdjcaaPlT
import Derived.Test.YtjddpbamnjdjcaaStrS
import Derived.Test.YtjddpbamnjdjcaaMkB
import Derived.Laws.IdiomStrings
namespace Go.Proofs.Ytjddpbamnjdjcaa
open Go.RowKit Go.Proofs
set_option linter.unusedVariables false

/-- The digits of a mark. -/
def mtL : Nat → Nat → ByteArray → ByteArray
  | 0, _, out => out
  | fu + 1, k, out => if k = 0 then out else mtL fu (k / 10) (⟨#[UInt8.ofNat (48 + k % 10)]⟩ ++ out)

theorem mtL_go {fu k : Nat} {out : ByteArray} (h : k ≠ 0) : mtL (fu + 1) k out = mtL fu (k / 10) (⟨#[UInt8.ofNat (48 + k % 10)]⟩ ++ out) := by
  show (if k = 0 then _ else _) = _; rw [if_neg h]
theorem mtL_stop {fu : Nat} {out : ByteArray} : mtL fu 0 out = out := by
  cases fu with
  | zero => rfl
  | succ fu => show (if 0 = 0 then _ else _) = _; rw [if_pos rfl]

set_option maxHeartbeats 1000000 in
theorem markText (k : Nat) (hk : k ≤ 4194304) (hk0 : 0 < k) (w : World) :
    Calls Try.prog 49 #[.int .i64 k] w fun e w' => e = .returned (.string (⟨#[109]⟩ ++ mtL k k ByteArray.empty)) ∧ Below w.heap.size w w' := by
  have hkz : ¬ ((k : Int) ≤ 0) := by omega
  go_enter Try.func49, Try.ntmps49
  go_wp2_with fail
  go_loopw [0, 3] (fun vk vo wr => ∃ (j fu : Nat) (o : ByteArray), o.size + j ≤ k ∧ j ≤ fu ∧ vk = .int .i64 j ∧ vo = .string o ∧ Hid (Below w.heap.size w wr ∧ mtL fu j o = mtL k k ByteArray.empty)) (fun vk _ _ => (intOf vk).toNat)
  case atStart => exact ⟨k, k, ByteArray.empty, by simp, Nat.le_refl _, rfl, rfl, Below.refl _ _, rfl⟩
  case round =>
    obtain ⟨j, fu, o, hj, hfu, rfl, rfl, HI⟩ := hrel
    by_cases hj0 : 0 < j
    · have hjz : (j : Int) > 0 := by omega
      have hd : (UInt8.ofNat (48 + j % 10)).toNat = 48 + j % 10 := by rw [UInt8.toNat_ofNat']; omega
      have hcv : (convert 43 9 (.slice (some ⟨wr.heap.size, 0, none⟩) 1 1)).run Try.prog (wr.alloc (.cells #[.int .u8 (48 + (j : Int) % 10)] 5)) = .ok (.string ⟨#[UInt8.ofNat (48 + j % 10)]⟩) (wr.alloc (.cells #[.int .u8 (48 + (j : Int) % 10)] 5)) := by
        have := run_convert_bytes_back (P := Try.prog) (wr.alloc (.cells #[.int .u8 (48 + (j : Int) % 10)] 5)) 43 9 5 ⟨wr.heap.size, 0, none⟩ 1 [UInt8.ofNat (48 + j % 10)] Try.underlying43 Try.underlying5 Try.underlying9 (fun i hi => by
          obtain rfl : i = 0 := by simpa using hi
          rw [Go.WideShapes.add_plain, World.cell?_alloc_at _ _ _ _ rfl]
          simp only [List.getElem_cons_zero]
          rw [hd]
          show some (Value.int .u8 (48 + (j : Int) % 10)) = some (Value.int .u8 ((48 + j % 10 : Nat) : Int))
          rw [show ((48 + j % 10 : Nat) : Int) = 48 + (j : Int) % 10 by omega])
        exact this
      clear hd
      have hds : (⟨#[UInt8.ofNat (48 + j % 10)]⟩ : ByteArray).size = 1 := rfl
      generalize hdd : (⟨#[UInt8.ofNat (48 + j % 10)]⟩ : ByteArray) = dd at *
      have HD := Lib.hid hdd; clear hdd
      have hds1 : dd.size ≤ 1 ∧ 1 ≤ dd.size := by omega
      have HDS := Lib.hid hds; clear hds
      obtain ⟨fu, rfl⟩ : ∃ x, fu = x + 1 := ⟨fu - 1, by omega⟩
      have HE : Hid (mtL fu (j / 10) (dd ++ o) = mtL k k ByteArray.empty) := Lib.hid (by
        have := HI.out.2
        rw [mtL_go (by omega), HD.out] at this
        exact this)
      have HB := Lib.hid (HI.out.1.alloc HI.out.1.size (.cells #[.int .u8 (48 + (j : Int) % 10)] 5))
      go_wp2_with fail
      refine ⟨⟨j / 10, fu, dd ++ o, by rw [ByteArray.size_append]; omega, by omega, by go_num, rfl, HB.out, HE.out⟩, by simp [intOf]; omega⟩
    · obtain rfl : j = 0 := by omega
      have HE : Hid (o = mtL k k ByteArray.empty) := Lib.hid (by
        have := HI.out.2
        rw [mtL_stop] at this
        exact this)
      have hos : o.size ≤ 4194304 := by omega
      go_wp2_with fail
      go_ret
      exact ⟨by rw [← HE.out]; rfl, HI.out.1⟩
end Go.Proofs.Ytjddpbamnjdjcaa
