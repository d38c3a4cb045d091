/-
  The walk of the reference spec.SortWhole, and that a stable sort by keys and tags leaves what sort.Sort leaves.
-/
import Derived.Test.YtkklbnheiganlaaStX
import Derived.Test.YtkklbnheiganlaaPqL2
namespace Go.Proofs.Ytkklbnheiganlaa
open Go.RowKit Go.Proofs
set_option linter.unusedVariables false

theorem OutPI.congr {w w' : World} {n : Nat} {f : Nat → Int × Int} {p q : Nat → Nat} {e : Ending} (h : OutPI w n f p e w') (he : ∀ k, k < n → f (q k) = f (p k)) : OutPI w n f q e w' := by
  obtain ⟨v, rfl, ⟨G, hG, hF⟩, hb⟩ := h
  exact ⟨v, rfl, ⟨G, hG, fun k hk => by
    rw [hF k hk]; unfold cellI; dsimp only; rw [he (k / 2) (by omega)]⟩, hb⟩

theorem stableLex (f : Nat → Int × Int) {n : Nat} (hn : n < 18446744073709551616) : ∀ k, k < n → f (stable (tabM (lexT f)) n (fun k => k) k) = f (sortP (lexT f) n k) :=
  sortLex_unique f (fun k => f (stable (tabM (lexT f)) n (fun k => k) k)) hn (fun i j hij hj => by
    show lexL (f (stable (tabM (lexT f)) n (fun k => k) i)) (f (stable (tabM (lexT f)) n (fun k => k) j)) = true
    rcases stable_ord (lexT_swo f) n i j (Nat.zero_le _) hij hj with h | ⟨h, _⟩
    · have h' : lexB (f (stable (tabM (lexT f)) n (fun k => k) i)) (f (stable (tabM (lexT f)) n (fun k => k) j)) = true := h
      rw [lexB_iff] at h'; rw [lexL_iff]; omega
    · have h' : lexB (f (stable (tabM (lexT f)) n (fun k => k) j)) (f (stable (tabM (lexT f)) n (fun k => k) i)) = false := h
      unfold lexL; rw [h']; rfl) (fun x => stable_count (lexT f) n (fun k => decide (f k = x)))

set_option maxRecDepth 100000 in
set_option maxHeartbeats 4000000 in
theorem specSortWhole (A : Option Addr) (n c B : Nat) (f : Nat → Int × Int) (w : World) (hn : n * 16 ≤ 140737488351232) (hB : B ≤ w.heap.size) (hrd : RdI w B A n f)
    (rk : Nat → Nat) (hrk : ∀ i, i < n → cnt (fun j => bfB (lexT f) j i) n = rk i) (hlt : ∀ i, i < n → rk i < n) (hinj : ∀ a b, a < n → b < n → rk a = rk b → a = b) :
    Calls Try.prog 45 #[.slice A n c] w (OutRI w n f rk) := by
  have hmk := makeItems n (by omega)
  have HR := Lib.hid (fun (w' : World) (hb : Below w.heap.size w w') => hrd.keep hb hB)
  have HK := Lib.hid (And.intro hrk (And.intro hlt hinj))
  have HM := Lib.hid (rowIs_madeItems w n 59)
  clear hrd hrk hlt hinj hB
  go_enter Try.func45, Try.ntmps45
  go_wp2_with fail
  go_loopw [14] (fun vi wr => ∃ (i : Nat) (F : Nat → Value), i ≤ n ∧ vi = .int .i64 i ∧ w.heap.size < wr.heap.size ∧ Hid (Below w.heap.size w wr ∧ wr.rowIs w.heap.size 59 (n * 2) F ∧ PlacedI rk f i F)) (fun vi _ => n - (intOf vi).toNat)
  case atStart => exact ⟨0, _, Nat.zero_le _, rfl, by simp, (Below.refl _ _).alloc (Nat.le_refl _) _, HM.out, fun k hk => absurd hk (Nat.not_lt_zero _)⟩
  case round =>
    clear hmk HM
    obtain ⟨i, F, hi, rfl, hsz, HI⟩ := hrel
    obtain ⟨wo, rfl⟩ : ∃ wo : World, wo = wr := ⟨_, rfl⟩
    by_cases hlt : i < n
    · obtain ⟨b, off, rfl, _, hci, hci2⟩ := (HR.out wo HI.out.1).at hlt
      generalize hx : (f i).1 = x at hci
      generalize hx2 : (f i).2 = x2 at hci2
      have HX := Lib.hid hx; have HX2 := Lib.hid hx2; clear hx hx2
      go_wp2_with fail
      generalize hV : wo.alloc (.cells #[.int .i64 x, .int .i64 x2] 59) = V
      have HV : Hid (Below wo.heap.size wo V ∧ V.heap.size = wo.heap.size + 1 ∧ V.cell? ⟨wo.heap.size, 0, none⟩ = some (.int .i64 x) ∧ V.cell? ⟨wo.heap.size, 1, none⟩ = some (.int .i64 x2)) := Lib.hid (by
        subst hV
        exact ⟨(Below.refl _ _).alloc (Nat.le_refl _) _, by simp, by simp [go_sem], by simp [go_sem]⟩)
      clear hV
      go_loopw [21, 6] (fun vj vn w2 => ∃ (j : Nat), j ≤ n ∧ vj = .int .i64 j ∧ vn = .int .i64 (cnt (fun j => bfB (lexT f) j i) j) ∧ Hid (Below V.heap.size V w2)) (fun vj _ _ => n - (intOf vj).toNat)
      case atStart => exact ⟨0, Nat.zero_le _, rfl, rfl, Below.refl _ _⟩
      case round =>
        obtain ⟨j, hj, rfl, rfl, HJ⟩ := hrel
        have hcl := cnt_le (fun j => bfB (lexT f) j i) j
        have HB2 : Hid (Below w.heap.size w wr) := Lib.hid ((HI.out.1.trans (HV.out.1.mono HI.out.1.size)).trans (HJ.out.mono (Nat.le_trans HI.out.1.size (by have := HV.out.2.1; omega))))
        have v0 : wr.cell? ⟨wo.heap.size, 0, none⟩ = some (.int .i64 x) := (HJ.out.cell (p := ⟨wo.heap.size, 0, none⟩) (by have := HV.out.2.1; simp; omega)).trans HV.out.2.2.1
        have v1 : wr.cell? ⟨wo.heap.size, 1, none⟩ = some (.int .i64 x2) := (HJ.out.cell (p := ⟨wo.heap.size, 1, none⟩) (by have := HV.out.2.1; simp; omega)).trans HV.out.2.2.2
        have hws : wo.heap.size < wr.heap.size := by have := HV.out.2.1; have := HJ.out.size; omega
        by_cases hjn : j < n
        · obtain ⟨b', off', h', _, hcj, hcj2⟩ := (HR.out wr HB2.out).at hjn
          simp only [Option.some.injEq, Addr.mk.injEq, and_true] at h'
          obtain ⟨rfl, rfl⟩ := h'
          have hcs : cnt (fun j => bfB (lexT f) j i) (j + 1) = cnt (fun j => bfB (lexT f) j i) j + (if (lexB ((f j).1, (f j).2) (x, x2) || (!lexB (x, x2) ((f j).1, (f j).2) && decide (j < i))) = true then 1 else 0) := by
            show cnt _ j + (if (lexB (f j) (f i) || (!lexB (f i) (f j) && decide (j < i))) = true then 1 else 0) = _
            rw [← HX.out, ← HX2.out]
          generalize (f j).1 = y at hcj hcs
          generalize (f j).2 = y2 at hcj2 hcs
          have HCS := Lib.hid hcs; clear hcs
          generalize cnt (fun j => bfB (lexT f) j i) j = k0 at *
          have HB3 := Lib.hid (HJ.out.trans (((Below.refl wr.heap.size wr).alloc (Nat.le_refl _) (.cells #[.int .i64 y, .int .i64 y2] 59)).mono HJ.out.size))
          have hqe := item_eql y y2 x x2
          have hgt : Try.prog.eqGuardType Try.prog.depth 59 = false := by kernel_rfl
          by_cases h1 : y < x
          · have HE : Hid (_ = k0 + 1) := Lib.hid (HCS.out.trans (by rw [show lexB (y, y2) (x, x2) = true from lexB_iff.2 (.inl h1)]; rfl)); clear HCS
            go_wp2_with fail
            go_roundw
            case rel => exact ⟨j + 1, hjn, by go_num, by rw [HE.out]; go_num, HB3.out⟩
            case measure => simp [intOf]; omega
          · by_cases h2 : y = x
            · subst h2
              have hq : (y == y) = true := by simp
              by_cases h3 : y2 < x2
              · have HE : Hid (_ = k0 + 1) := Lib.hid (HCS.out.trans (by rw [show lexB (y, y2) (y, x2) = true from lexB_iff.2 (.inr ⟨rfl, h3⟩)]; rfl)); clear HCS
                go_wp2_with fail
                go_roundw
                case rel => exact ⟨j + 1, hjn, by go_num, by rw [HE.out]; go_num, HB3.out⟩
                case measure => simp [intOf]; omega
              · by_cases h4 : y2 = x2
                · subst h4
                  rw [show decide ((y, y2) = (y, y2)) = true by simp] at hqe
                  have hn1 : lexB (y, y2) (y, y2) = false := lexB_no.2 (.inr ⟨rfl, Int.le_refl _⟩)
                  by_cases h5 : j < i
                  · have HE : Hid (_ = k0 + 1) := Lib.hid (HCS.out.trans (by rw [hn1, decide_eq_true h5]; rfl)); clear HCS hn1
                    go_wp2_with fail
                    go_roundw
                    case rel => exact ⟨j + 1, hjn, by go_num, by rw [HE.out]; go_num, HB3.out⟩
                    case measure => simp [intOf]; omega
                  · have HE : Hid (_ = k0) := Lib.hid (HCS.out.trans (by rw [hn1, decide_eq_false h5]; rfl)); clear HCS hn1
                    go_wp2_with fail
                    go_roundw
                    case rel => exact ⟨j + 1, hjn, by go_num, by rw [HE.out], HB3.out⟩
                    case measure => simp [intOf]; omega
                · rw [show decide ((y, y2) = (y, x2)) = false by simp [h4]] at hqe
                  have HE : Hid (_ = k0) := Lib.hid (HCS.out.trans (by rw [show lexB (y, y2) (y, x2) = false from lexB_no.2 (.inr ⟨rfl, show x2 ≤ y2 by omega⟩), show lexB (y, x2) (y, y2) = true from lexB_iff.2 (.inr ⟨rfl, show x2 < y2 by omega⟩)]; rfl)); clear HCS h4
                  go_wp2_with fail
                  go_roundw
                  case rel => exact ⟨j + 1, hjn, by go_num, by rw [HE.out], HB3.out⟩
                  case measure => simp [intOf]; omega
            · have hq : (y == x) = false := by simpa using h2
              rw [show decide ((y, y2) = (x, x2)) = false by simp [h2]] at hqe
              have HE : Hid (_ = k0) := Lib.hid (HCS.out.trans (by rw [show lexB (y, y2) (x, x2) = false from lexB_no.2 (.inl (show x < y by omega)), show lexB (x, x2) (y, y2) = true from lexB_iff.2 (.inl (show x < y by omega))]; rfl)); clear HCS h2
              go_wp2_with fail
              go_roundw
              case rel => exact ⟨j + 1, hjn, by go_num, by rw [HE.out], HB3.out⟩
              case measure => simp [intOf]; omega
        · obtain rfl : j = n := by omega
          have hk := HK.out.1 i hlt
          have hkl := HK.out.2.1 i hlt
          have hin := HK.out.2.2
          rw [hk]
          clear hk hcl
          have r2 := rowIs_below (rowIs_below HI.out.2.1 HV.out.1 hsz) HJ.out (by have := HV.out.2.1; omega)
          have cc := r2.cell (show rk i * 2 < j * 2 by omega)
          have cc2 := r2.cell (show rk i * 2 + 1 < j * 2 by omega)
          have ff := r2.frozen (rk i * 2)
          have ff2 := r2.frozen (rk i * 2 + 1)
          have R2 := Lib.hid r2; have HIn := Lib.hid hin; clear r2 hin
          have hsz2 : w.heap.size < wr.heap.size := by omega
          generalize hq : rk i = q at *
          have HQ := Lib.hid hq; clear hq
          generalize hq2 : F (q * 2) = fq at cc
          generalize hq3 : F (q * 2 + 1) = fq2 at cc2
          clear hq2 hq3
          go_wp2_with fail
          refine ⟨⟨i + 1, _, hlt, by go_num, by simpa [World.setCell] using hsz2, (HB2.out.setCell (p := ⟨w.heap.size, q * 2, none⟩) (Nat.le_refl _) _).setCell (p := ⟨w.heap.size, q * 2 + 1, none⟩) (Nat.le_refl _) _, (R2.out.set (q * 2) _).set (q * 2 + 1) _, by rw [← HQ.out, ← HX.out, ← HX2.out]; exact HI.out.2.2.step HIn.out hlt⟩, by simp [intOf]; omega⟩
    · go_wp2_with fail
      go_ret
      obtain rfl : i = n := by omega
      exact ⟨w.heap.size, F, rfl, Nat.le_refl _, HI.out.2.1, HI.out.2.2, HI.out.1⟩

set_option maxHeartbeats 400000 in
theorem specSortSortWhole (A : Option Addr) (n c B : Nat) (f : Nat → Int × Int) (w : World) (hn : n * 16 ≤ 140737488351232) (hB : B ≤ w.heap.size) (hrd : RdI w B A n f)
    (rk : Nat → Nat) (hrk : ∀ i, i < n → cnt (fun j => bfB (lexT f) j i) n = rk i) (hlt : ∀ i, i < n → rk i < n) (hinj : ∀ a b, a < n → b < n → rk a = rk b → a = b) :
    Calls Try.prog 15 #[.slice A n c] w (OutRI w n f rk) := by
  have HC := Lib.hid (specSortWhole A n c B f w hn hB hrd rk hrk hlt hinj)
  clear hrd hrk hlt hinj hB
  go_enter Try.func15, Try.ntmps15
  go_wp2_with fail
  refine HC.out.mono ?_
  rintro e w1 ⟨g, F, rfl, h1, h2, h3, h4⟩
  have HA := Lib.hid (And.intro h1 (And.intro h2 (And.intro h3 h4)))
  clear h1 h2 h3 h4
  go_wp2_with fail
  go_ret
  exact ⟨g, F, rfl, HA.out.1, HA.out.2.1, HA.out.2.2.1, HA.out.2.2.2⟩
end Go.Proofs.Ytkklbnheiganlaa
