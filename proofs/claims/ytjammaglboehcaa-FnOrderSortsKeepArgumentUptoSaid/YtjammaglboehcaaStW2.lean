/-
  impl.StableCalls: the log of the calls that sort.Stable makes; and impl.SortStableByOrder for any machine that asks the same table.
-/
import Derived.Test.YtjammaglboehcaaStW
import Derived.Deep.Onto
import Derived.Deep.RegionHeld3
namespace Go.Proofs.Ytjammaglboehcaa
open Go.RowKit Go.Proofs
set_option linter.unusedVariables false

/-- The machine of a list under a table that writes down what it was asked for. -/
def logM (T : Nat → Nat → Bool) : Mach ((Nat → Nat) × Log) := ⟨fun s i j => T (s.1 i) (s.1 j), fun s i j => (s.1, s.2 ++ [(2, i, j)]), fun s i j => (swapF s.1 i j, s.2 ++ [(3, i, j)])⟩
theorem logM_view (T : Nat → Nat → Bool) : View (logM T) T (fun s => s.1) := ⟨fun _ _ _ => rfl, fun _ _ _ => rfl, fun _ _ _ => rfl⟩
def okL (s : (Nat → Nat) × Log) : Prop := s.2.length ≤ 5864062014805
theorem logM_guard (T : Nat → Nat → Bool) : Guard (logM T) okL :=
  ⟨fun s i j h => by have h' : (s.2 ++ [(2, i, j)]).length ≤ 5864062014805 := h; rw [List.length_append] at h'; exact Nat.le_of_add_right_le h', fun s i j h => by have h' : (s.2 ++ [(3, i, j)]).length ≤ 5864062014805 := h; rw [List.length_append] at h'; exact Nat.le_of_add_right_le h'⟩
theorem logM_costs (T : Nat → Nat → Bool) : Costs (logM T) (fun s => s.2.length) :=
  ⟨fun s i j => by show (s.2 ++ [(2, i, j)]).length ≤ _; simp, fun s i j => by show (s.2 ++ [(3, i, j)]).length ≤ _; simp⟩
def log0 : (Nat → Nat) × Log := (fun k => k, [(1, 0, 0)])
theorem okL_stable (T : Nat → Nat → Bool) (n : Nat) (hn : n ≤ 1048576) : okL (stable (logM T) n log0) := by
  have := cost_stable (logM_costs T) n log0 hn
  have h1 : log0.2.length = 1 := rfl
  unfold okL
  omega

theorem RowP.low {w0 w w' : World} {g : Nat} {t : TypeId} {n len : Nat} {e G : Nat → Value} {p : Nat → Nat} {B : Nat} (h : RowP w0 g t n len e G p w) (hb : Below B w w') (hg : g < B) : RowP w0 g t n len e G p w' :=
  ⟨h.1.trans (hb.mono (Nat.le_of_lt hg)), h.2.1, h.2.2.1, rowIs_below h.2.2.2 hb hg⟩

theorem watched_len (a : Option Addr) (w : World) : (method 266 65 (.pointer a) "Len").run Try.prog w = .ok (174, .pointer a) w := by kernel_rfl
theorem watched_less (a : Option Addr) (w : World) : (method 266 65 (.pointer a) "Less").run Try.prog w = .ok (175, .pointer a) w := by kernel_rfl
theorem watched_swap (a : Option Addr) (w : World) : (method 266 65 (.pointer a) "Swap").run Try.prog w = .ok (176, .pointer a) w := by kernel_rfl
theorem watched_en : ∀ args w, (callFunc 174 args).run Try.prog w = .ok (.enter 174 args) w := enters_of Try.func174 (by kernel_rfl) rfl
theorem watched_el : ∀ args w, (callFunc 175 args).run Try.prog w = .ok (.enter 175 args) w := enters_of Try.func175 (by kernel_rfl) rfl
theorem watched_es : ∀ args w, (callFunc 176 args).run Try.prog w = .ok (.enter 176 args) w := enters_of Try.func176 (by kernel_rfl) rfl

/-- watched over a row of its own, as a value with Less and Swap. -/
theorem watchedS (sz : Int) (A : Option Addr) (m c B : Nat) (gb : Nat → Bool) (g n cap len Bw : Nat) (f : Nat → Int) (G : Nat → Value) (T : Nat → Nat → Bool) (w0 : World) (hsz : I64 sz) (hm : m ≤ 140737488351232) (hB : B ≤ g) (hgB : g < Bw) (hrd : Rd w0 B Value.bool A m gb)
    (hf64 : ∀ i, I64 (f i)) (hn : n ≤ 1152921504606846975) (hT : ∀ i j, i < n → j < n → T i j = relB sz m gb (f i) (f j)) :
    IfaceS (logM T) okL (fun s w => RowP w0 g 3 n len (fun k => .int .i64 (f k)) G s.1 w ∧ PermN n s.1 ∧ LogB Bw (.slice (some ⟨g, 0, none⟩) n cap) (.int .i64 sz) (.slice A m c) s.2 w) 65 (.pointer (some ⟨Bw, 0, none⟩)) 175 176 n where
  guard := logM_guard T
  hn := hn
  mL := watched_less _
  mS := watched_swap _
  eL := watched_el
  eS := watched_es
  less := fun s w i j hi hj hR hok => by
    have hl : s.2.length ≤ 5864062014804 := by have h' : (s.2 ++ [(2, i, j)]).length ≤ 5864062014805 := hok; rw [List.length_append] at h'; exact Nat.le_of_succ_le_succ h'
    refine watchedLess Bw i j _ n cap sz A m c s.2 _ w _ hl hR.2.2 fun W2 hL2 hb2 => ?_
    have hR2 := hR.1.low hb2 hgB
    have hg2 : g < W2.heap.size := hR2.lt
    refine (orderedLess (some ⟨g, 0, none⟩) n cap sz A m c i j B W2.heap.size gb (fun k => f (s.1 k)) W2 hsz hm (by omega) (hrd.keep hR2.1 hB) (fun k => hf64 _) (by omega) (Nat.le_refl _)
      (fun _ => ⟨g, 0, rfl, hg2, fun k hk => by rw [Nat.zero_add]; exact hR2.cell hk⟩) hi hj).mono fun e w' h => ⟨?_, hR2.keep h.2, hR.2.1, hL2.keep h.2⟩
    rw [h.1]
    show _ = Ending.returned (.bool (T (s.1 i) (s.1 j)))
    rw [hT _ _ (hR.2.1.1 i hi) (hR.2.1.1 j hj)]
  swap := fun s w i j hi hj hR hok => by
    have hl : s.2.length ≤ 5864062014804 := by have h' : (s.2 ++ [(3, i, j)]).length ≤ 5864062014805 := hok; rw [List.length_append] at h'; exact Nat.le_of_succ_le_succ h'
    refine watchedSwap Bw i j _ n cap sz A m c s.2 w _ hl hR.2.2 fun W2 hL2 hb2 => ?_
    have hR2 := hR.1.low hb2 hgB
    refine (orderedSwap g n cap sz A m c i j (f (s.1 i)) (f (s.1 j)) W2 (by omega) hi hj hR2.lt (hR2.cell hi) (hR2.cell hj) (hR2.frozen i) (hR2.frozen j)).mono fun e w' h => ⟨h.1, ?_⟩
    obtain ⟨q, o, rfl⟩ := h.2
    have hal := (Below.refl W2.heap.size W2).alloc (Nat.le_refl _) o
    exact ⟨((hR2.keep hal).swap hi hj).drewN q, permN_swap hR.2.1 hi hj, (((hL2.keep hal).setCell (a := ⟨g, i, none⟩) hgB _).setCell (a := ⟨g, j, none⟩) hgB _).drewN q⟩

theorem OwnRow.slc {w : World} {B : Nat} {t : TypeId} {v : Value} {n : Nat} {F : Nat → Value} (h : OwnRow w B t 1 v n F) :
    ∃ A0 cap, v = .slice A0 n cap ∧ ((A0 = none ∧ n = 0) ∨ ∃ g, A0 = some ⟨g, 0, none⟩ ∧ B ≤ g ∧ n ≤ cap ∧ w.rowIs g t (cap * 1) F) := by
  rcases h with ⟨rfl, rfl⟩ | ⟨g, cap, rfl, h1, h2, h3⟩
  · exact ⟨none, 0, rfl, .inl ⟨rfl, rfl⟩⟩
  · exact ⟨_, cap, rfl, .inr ⟨g, rfl, h1, h2, h3⟩⟩

/-- A list of the call's own: the calls of a log. -/
def OutL (w : World) (l : Log) (e : Ending) (w' : World) : Prop := ∃ v, e = .returned v ∧ w'.ownsRow w.heap.size 163 3 v l.length (callsL l) ∧ Below w.heap.size w w'

theorem logB_new {w : World} {a0 a1 a2 : Value} {t : TypeId} : LogB w.heap.size a0 a1 a2 [] (w.alloc (.cells #[a0, a1, a2, .slice none 0 0] t)) :=
  ⟨.slice none 0 0, by simp, by simp [go_sem], by simp [go_sem], by simp [go_sem], by simp [go_sem], by simp [go_sem], World.ownsRow_nil _ _ _ _⟩

/-- sort.Stable at a new watched over a row g (or nil). -/
theorem stableWatched (sz : Int) (A : Option Addr) (m c B : Nat) (gb : Nat → Bool) (A0 : Option Addr) (n cap : Nat) (f : Nat → Int) (T : Nat → Nat → Bool) (w w1 : World) (G : Nat → Value) (hsz : I64 sz) (hm : m ≤ 140737488351232) (hB : B ≤ w.heap.size) (hrd : Rd w B Value.bool A m gb)
    (hf64 : ∀ i, I64 (f i)) (hn : n ≤ 1048576) (hT : ∀ i j, i < n → j < n → T i j = relB sz m gb (f i) (f j)) (hb1 : Below w.heap.size w w1)
    (hG : (A0 = none ∧ n = 0) ∨ ∃ g, A0 = some ⟨g, 0, none⟩ ∧ w.heap.size ≤ g ∧ n ≤ cap ∧ w1.rowIs g 3 (cap * 1) G) (hF : ∀ k, k < n → G k = .int .i64 (f k)) :
    Calls Try.prog 39 #[.iface 65 (.pointer (some ⟨w1.heap.size, 0, none⟩))] (w1.alloc (.cells #[.slice A0 n cap, .int .i64 sz, .slice A m c, .slice none 0 0] 67)) fun e w' =>
      e = .returned (.tuple #[]) ∧ Below w.heap.size w w' ∧ LogB w1.heap.size (.slice A0 n cap) (.int .i64 sz) (.slice A m c) (stable (logM T) n log0).2 w' := by
  have hok := okL_stable T n hn
  have hLn := watchedLen w1.heap.size A0 n cap sz A m c [] (w1.alloc (.cells #[.slice A0 n cap, .int .i64 sz, .slice A m c, .slice none 0 0] 67)) (by simp) logB_new
  have hal := (Below.refl w1.heap.size w1).alloc (Nat.le_refl _) (.cells #[.slice A0 n cap, .int .i64 sz, .slice A m c, .slice none 0 0] 67)
  rcases hG with ⟨rfl, rfl⟩ | ⟨g, rfl, hg, hnc, hr⟩
  · refine (sortStable (T := 65) (rv := .pointer (some ⟨w1.heap.size, 0, none⟩)) (gl := 175) (gs := 176) (n := 0) (M := logM T) (ok := okL) (R := fun s w2 => Below w.heap.size w w2 ∧ LogB w1.heap.size (.slice none 0 cap) (.int .i64 sz) (.slice A m c) s.2 w2)
      ⟨logM_guard T, by omega, watched_less _, watched_swap _, watched_el, watched_es, fun _ _ i _ hi => absurd hi (Nat.not_lt_zero _), fun _ _ i _ hi => absurd hi (Nat.not_lt_zero _)⟩ 174 (watched_len _) watched_en log0 log0 _
      (hLn.mono fun e w2 h => ⟨h.1, hb1.trans ((hal.trans h.2.2).mono hb1.size), h.2.1⟩) hok).mono fun e w' h => ⟨h.1, h.2.1, h.2.2⟩
  · refine (sortStable (watchedS sz A m c B gb g n cap (cap * 1) w1.heap.size f G T w1 hsz hm (by omega) hr.lt (hrd.keep hb1 hB) hf64 (by omega) hT) 174 (watched_len _) watched_en log0 log0 _
      (hLn.mono fun e w2 h => ⟨h.1, RowP.low ⟨Below.refl _ _, hr.lt, by omega, hr.congr fun k _ => by
        by_cases hk : k < n
        · rw [if_pos hk, hF k hk]; rfl
        · rw [if_neg hk]⟩ (hal.trans h.2.2) hr.lt, permN_id n, h.2.1⟩) hok).mono fun e w' h => ⟨h.1, hb1.trans (h.2.1.1.mono hg), h.2.2.2⟩

set_option maxHeartbeats 2000000 in
theorem implStableCalls (sz : Int) (A : Option Addr) (m c B : Nat) (gb : Nat → Bool) (A' : Option Addr) (n c' B' : Nat) (f : Nat → Int) (T : Nat → Nat → Bool) (w : World) (hsz : I64 sz) (hm : m ≤ 140737488351232) (hB : B ≤ w.heap.size) (hrd : Rd w B Value.bool A m gb)
    (hf64 : ∀ i, I64 (f i)) (hn : n ≤ 1048576) (hB' : B' ≤ w.heap.size) (hrd' : Rd w B' (Value.int .i64) A' n f) (hT : ∀ i j, i < n → j < n → T i j = relB sz m gb (f i) (f j)) :
    Calls Try.prog 30 #[.slice A' n c', .agg #[.int .i64 sz, .slice A m c]] w (OutL w (stable (logM T) n log0).2) := by
  have H0 := Lib.hid (BoxInv.first w sz A m c 33)
  have HNu := Lib.hid (fun w' (hb : Below w.heap.size w w') => numbers A' n c' B' f w' (by omega) (hrd'.keep hb hB'))
  have HSt := Lib.hid (fun A0 cap w1 G hb hG hF => stableWatched sz A m c B gb A0 n cap f T w w1 G hsz hm hB hrd hf64 hn hT hb hG hF)
  clear hrd hrd' hB hB' hf64 hsz hT
  generalize (stable (logM T) n log0).2 = l at *
  go_enter Try.func30, Try.ntmps30
  go_wp2_with fail
  have p0 := H0.out.c0
  have p1 := H0.out.c1
  generalize (w.alloc (.cells #[.int .i64 sz, .slice A m c] 33)) = V at *
  have HB := Lib.hid (H0.out.drewN 1)
  go_region_held3 (fun w' => w'.cell? ⟨w.heap.size, 0, none⟩ = some (.int .i64 sz) ∧ w'.cell? ⟨w.heap.size, 1, none⟩ = some (.slice A m c))
    (go_keep)
    (first | (go_at_call 45; refine (HNu.out _ HB.out.bel).mono ?_; rintro e w1 ⟨v1, rfl, ⟨G, hG, hF⟩, hb1⟩; obtain ⟨A0, cap, rfl, hG0⟩ := hG.slc; have HG0 := Lib.hid hG0; have HF := Lib.hid hF; have HS0 := Lib.hid hb1.size; have HB := Lib.hid (HB.out.step hb1); have q0 := HB.out.c0; have q1 := HB.out.c1; clear hb1 hG hG0 hF))
  have HC := Lib.hid (HSt.out A0 cap w1 G HB.out.bel (HG0.out.imp id fun ⟨g, h1, h2, h3⟩ => ⟨g, h1, Nat.le_trans H0.out.bel.size h2, h3⟩) (fun k hk => HF.out k (by omega)))
  have HS1 := Lib.hid HB.out.bel.size
  clear HSt HNu HG0 HF HS0 H0 p0 p1 q0 q1
  go_wp2_with fail
  refine HC.out.mono ?_
  rintro e w2 ⟨rfl, hb2, v, z0, z1, z2, z3, z4, z5, z6⟩
  have HR := Lib.hid (And.intro (World.ownsRow.mono z6 (Nat.le_succ_of_le HS1.out)) hb2)
  clear hb2 z1 z2 z3 z5 z6 HC
  go_wp2_with fail
  go_ret
  exact ⟨v, rfl, HR.out.1, HR.out.2⟩
end Go.Proofs.Ytjammaglboehcaa
