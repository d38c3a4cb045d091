/-
  The walk of laws.replayed: the swaps of a log, done again.
-/
import Derived.Test.YtkklbnheiganlaaStW2
import Derived.Test.YtkklbnheiganlaaStW3
namespace Go.Proofs.Ytkklbnheiganlaa
open Go.RowKit Go.Proofs
set_option linter.unusedVariables false

/-- A list of the call's own and 'true'. -/
def OutT (w : World) (n : Nat) (f : Nat → Int) (p : Nat → Nat) (e : Ending) (w' : World) : Prop :=
  ∃ v, e = .returned (.tuple #[v, .bool true]) ∧ (∃ G : Nat → Value, OwnRow w' w.heap.size 3 1 v n G ∧ ∀ k, k < n → G k = .int .i64 (f (p k))) ∧ Below w.heap.size w w'

set_option maxRecDepth 100000 in
set_option maxHeartbeats 2000000 in
theorem replayedB (A' : Option Addr) (n c' B' : Nat) (f : Nat → Int) (A4 : Option Addr) (c4 B4 : Nat) (l : Log) (w : World) (hn : n ≤ 1048576) (hB' : B' ≤ w.heap.size) (hrd' : Rd w B' (Value.int .i64) A' n f) (hll : l.length ≤ 9382000000000)
    (hB4 : B4 ≤ w.heap.size) (hrd4 : RdC w B4 A4 l.length (lgAt l)) (hok : ∀ k, k < l.length → (lgAt l k).1 = 3 → (lgAt l k).2.1 < n ∧ (lgAt l k).2.2 < n) :
    Calls Try.prog 31 #[.slice A' n c', .slice A4 l.length c4] w (OutT w n f (replay (fun k => k) l)) := by
  obtain ⟨i, hi, hz, hs, hby⟩ := info_parts infoIntS
  have HR := Lib.hid hrd'; have HR4 := Lib.hid hrd4
  have HOk := Lib.hid hok
  clear hrd' hrd4 hok
  generalize hL : l.length = L at *
  have HL := Lib.hid hL; clear hL
  go_enter Try.func31, Try.ntmps31
  go_wp2_with (at_builtin; refine wpList_copy_nil rfl _ _ 30 rfl 3 i _ 1 8 Try.underlying30 hi hz hs hby rfl (by omega) A' n c' (fun j => .int .i64 (f j)) rfl rfl (fun h => by obtain ⟨b, off, hA, _, hc⟩ := HR.out h; exact ⟨b, off, hA, fun j hj => hc j (by omega)⟩) (fun j hj => by simp [Value.oneCell']) (by simp [maxLen]; omega) (by omega) ?_; intro v1 w1 hcp; obtain ⟨⟨G, hG, hF⟩, hb1⟩ := hcp; have HB1 := Lib.hid hb1; have HF := Lib.hid hF; clear hb1 hF)
  have HR4' := Lib.hid (HR4.out.keep HB1.out hB4)
  rcases hG with ⟨rfl, h0⟩ | ⟨g, cap, rfl, hg, hnc, hr⟩
  · have H0n := Lib.hid h0; clear h0
    go_wp2_with fail
    go_loopw [14] (fun vi wr => ∃ k : Nat, k ≤ L ∧ vi = .int .i64 k ∧ Hid (Below w1.heap.size w1 wr)) (fun vi _ => L - (intOf vi).toNat)
    case atStart => exact ⟨0, Nat.zero_le _, rfl, Below.refl _ _⟩
    case round =>
      obtain ⟨k, hk, rfl, HB⟩ := hrel
      by_cases hlt : k < L
      · have HBn := Lib.hid (fun o => HB.out.alloc HB.out.size o)
        obtain ⟨b, off, rfl, hbl, z0, z1, z2⟩ := (HR4'.out.keep HB.out (Nat.le_trans hB4 HB1.out.size)).at hlt
        have ht := HOk.out k hlt
        generalize lgAt l k = t at *
        obtain ⟨t1, t2, t3⟩ := t
        dsimp only at ht z0 z1 z2
        have hne : ¬ ((t1 : Int) = 3) := fun e => by have := ht (by omega); have := H0n.out; omega
        clear ht
        go_wp2_with fail
        go_roundw
        case rel => exact ⟨k + 1, hlt, by go_num, HBn.out _⟩
        case measure => simp [intOf]; omega
      · obtain rfl : k = L := by omega
        go_wp2_with fail
        go_ret2
        exact ⟨_, rfl, ⟨fun _ => .bool false, .inl ⟨rfl, H0n.out⟩, fun k hk => absurd hk (by rw [H0n.out]; omega)⟩, HB1.out.trans (HB.out.mono HB1.out.size)⟩
  · have HRow := Lib.hid hr
    have hgl := hr.lt
    clear hr
    go_wp2_with fail
    go_loopw [14] (fun vi wr => ∃ k : Nat, k ≤ L ∧ vi = .int .i64 k ∧ Hid (RowP w1 g 3 n (cap * 1) (fun k => .int .i64 (f k)) G (replay (fun k => k) (l.take k)) wr)) (fun vi _ => L - (intOf vi).toNat)
    case atStart => exact ⟨0, Nat.zero_le _, rfl, ⟨Below.refl _ _, hgl, by omega, HRow.out.congr fun k _ => by
        by_cases hk : k < n
        · rw [if_pos hk, HF.out k (by omega)]; rfl
        · rw [if_neg hk]⟩⟩
    case round =>
      obtain ⟨k, hk, rfl, HP⟩ := hrel
      by_cases hlt : k < L
      · have HPn := Lib.hid (fun o => HP.out.keep ((Below.refl wr.heap.size wr).alloc (Nat.le_refl _) o))
        have hgw := HP.out.lt
        obtain ⟨b, off, rfl, hbl, z0, z1, z2⟩ := (HR4'.out.keep HP.out.1 (Nat.le_trans hB4 hg)).at hlt
        have ht := HOk.out k hlt
        have hrep : replay (fun k => k) (l.take (k + 1)) = if (lgAt l k).1 = 3 then swapF (replay (fun k => k) (l.take k)) (lgAt l k).2.1 (lgAt l k).2.2 else replay (fun k => k) (l.take k) := by
          rw [take_succ_lg l (by rw [HL.out]; exact hlt), replay_add]
        generalize replay (fun k => k) (l.take k) = q at *
        generalize lgAt l k = t at *
        obtain ⟨t1, t2, t3⟩ := t
        dsimp only at ht z0 z1 z2 hrep
        by_cases h3 : t1 = 3
        · obtain ⟨hi2, hi3⟩ := ht h3
          subst h3
          rw [if_pos rfl] at hrep
          have HRep := Lib.hid hrep
          clear ht hrep
          have x2 := HP.out.cell hi2
          have x3 := HP.out.cell hi3
          have f2 := HP.out.frozen t2
          have f3 := HP.out.frozen t3
          have g2 : (t2 : Int) < (n : Int) := by omega
          have g3 : (t3 : Int) < (n : Int) := by omega
          have g4 : (0 : Int) ≤ (t2 : Int) := by omega
          have g5 : (0 : Int) ≤ (t3 : Int) := by omega
          have z0 : wr.cell? ⟨b, off + k * 3, none⟩ = some (.int .i64 3) := z0
          have hbg : ¬ (b = g) := by omega
          go_wp2_with fail
          generalize hV : wr.alloc (.cells #[.int .i64 3, .int .i64 (t2 : Int), .int .i64 (t3 : Int)] 39) = V
          have y1 : V.cell? ⟨wr.heap.size, 1, none⟩ = some (.int .i64 (t2 : Int)) := by subst hV; simp [go_sem]
          have y2 : V.cell? ⟨wr.heap.size, 2, none⟩ = some (.int .i64 (t3 : Int)) := by subst hV; simp [go_sem]
          have hxa : V.cell? ⟨g, t2, none⟩ = some (.int .i64 (f (q t2))) := by subst hV; exact cell_alloc _ x2
          have hya : V.cell? ⟨g, t3, none⟩ = some (.int .i64 (f (q t3))) := by subst hV; exact cell_alloc _ x3
          have fxa : V.frozen? ⟨g, t2, none⟩ = false := by subst hV; exact (HPn.out _).frozen t2
          have fya : V.frozen? ⟨g, t3, none⟩ = false := by subst hV; exact (HPn.out _).frozen t3
          have hne : ¬ (g = wr.heap.size) := by omega
          have hne2 : ¬ (wr.heap.size = g) := by omega
          have hV2 : RowP w1 g 3 n (cap * 1) (fun k => .int .i64 (f k)) G q V := by subst hV; exact HPn.out _
          have HV2 := Lib.hid hV2
          clear hV2 hV x2 x3 f2 f3 z0 z1 z2 HPn hgw
          generalize wr.heap.size = Bb at *
          have hsc : (V.setCell ⟨g, t2, none⟩ (.int .i64 (f (q t3)))).cell? ⟨g, t3, none⟩ = some (.int .i64 (f (q t3))) := by
            by_cases hij : t2 = t3
            · subst hij; exact World.cell?_setCell_same _ _ _ hxa
            · rw [World.cell?_setCell_other _ _ _ _ (fun h => hij (Addr.mk.inj h).2.1)]; exact hya
          go_region
          go_wp2_with fail
          go_roundw
          case rel => exact ⟨k + 1, hlt, by go_num, by rw [HRep.out]; exact (HV2.out.swap hi2 hi3).drewN 1⟩
          case measure => simp [intOf]; omega
        · have hne : ¬ ((t1 : Int) = 3) := by omega
          rw [if_neg h3] at hrep
          have HRep := Lib.hid hrep
          clear ht hrep
          go_wp2_with fail
          go_roundw
          case rel => exact ⟨k + 1, hlt, by go_num, by rw [HRep.out]; exact HPn.out _⟩
          case measure => simp [intOf]; omega
      · obtain rfl : k = L := by omega
        have hq : replay (fun k => k) (l.take k) = replay (fun k => k) l := by rw [← HL.out, List.take_length]
        rw [hq] at HP
        clear hq
        go_wp2_with fail
        go_ret2
        exact ⟨_, rfl, ⟨fun k => if k < n then .int .i64 (f (replay (fun k => k) l k)) else G k, .inr ⟨g, cap, rfl, hg, hnc, HP.out.2.2.2⟩, fun k hk => if_pos hk⟩, HB1.out.trans (HP.out.1.mono hg)⟩
end Go.Proofs.Ytkklbnheiganlaa
