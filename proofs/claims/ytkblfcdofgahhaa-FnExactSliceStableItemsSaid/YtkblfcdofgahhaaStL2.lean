/-
  The plain law and the walk of the law FnSortStableByOrder.
-/
import Derived.Test.YtkblfcdofgahhaaStS
import Derived.Test.YtkblfcdofgahhaaSame
import Derived.Test.YtkblfcdofgahhaaIsO
import Derived.Deep.RegionHeld3
namespace Go.Proofs.Ytkblfcdofgahhaa
open Go.RowKit Go.Proofs
set_option linter.unusedVariables false

theorem w3_trans {r : Int → Int → Bool} {a b c : Int} (h : weak3 r a b c = true) (h1 : r a b = true) (h2 : r b c = true) : r a c = true := by
  unfold weak3 at h; rw [h1, h2] at h
  cases hc : r a c
  · rw [hc] at h; simp at h
  · rfl
theorem w3_inc {r : Int → Int → Bool} {a b c : Int} (h : weak3 r a b c = true) (h1 : r a b = false) (h2 : r b a = false) (h3 : r b c = false) (h4 : r c b = false) : r a c = false ∧ r c a = false := by
  unfold weak3 at h; rw [h1, h2, h3, h4] at h
  simpa using h

/-- A strict weak order of a list's numbers, as one of all places. -/
theorem swo_of_weak {r : Int → Int → Bool} {f : Nat → Int} {n : Nat} (h : WeakP r f n) : ∃ T : Nat → Nat → Bool, Swo T ∧ ∀ i j, i < n → j < n → T i j = r (f i) (f j) := by
  by_cases h0 : n = 0
  · exact ⟨fun _ _ => false, ⟨fun _ => rfl, fun _ _ _ h => absurd h (by simp), fun _ _ _ _ _ => rfl⟩, fun i j hi => absurd hi (by omega)⟩
  · have hl : ∀ i, min i (n - 1) < n := fun i => by omega
    refine ⟨fun i j => r (f (min i (n - 1))) (f (min j (n - 1))), ⟨fun i => (h _ (hl i)).1, fun i j k h1 h2 => w3_trans (((h _ (hl i)).2 _ (hl j)).2 _ (hl k)) h1 h2, fun i j k h1 h2 => ?_⟩, fun i j hi hj => by
      have e1 : min i (n - 1) = i := by omega
      have e2 : min j (n - 1) = j := by omega
      simp only [e1, e2]⟩
    have hi := hl i; have hj := hl j; have hk := hl k
    generalize min i (n - 1) = i at *
    generalize min j (n - 1) = j at *
    generalize min k (n - 1) = k at *
    cases hc : r (f k) (f i)
    · rfl
    · exfalso
      cases hab : r (f i) (f j)
      · cases hbc : r (f j) (f k)
        · have := (w3_inc (((h i hi).2 j hj).2 k hk) hab h1 hbc h2).2
          rw [hc] at this; cases this
        · have := w3_trans (((h j hj).2 k hk).2 i hi) hbc hc
          rw [h1] at this; cases this
      · have := w3_trans (((h k hk).2 i hi).2 j hj) hc hab
        rw [h2] at this; cases this

theorem ranked {T T0 : Nat → Nat → Bool} {n : Nat} (S : Swo T) (hT : ∀ i j, i < n → j < n → T i j = T0 i j) :
    (∀ i, i < n → cnt (fun j => bfB T0 j i) n < n) ∧ (∀ a b, a < n → b < n → cnt (fun j => bfB T0 j a) n = cnt (fun j => bfB T0 j b) n → a = b) ∧ ∀ k, k < n → cnt (fun j => bfB T0 j (stable (tabM T) n (fun k => k) k)) n = k := by
  have hp := stable_perm T n
  have ho := stable_ord S n
  have hc := stable_count T n
  generalize stable (tabM T) n (fun k => k) = p at *
  have he : ∀ i, i < n → cnt (fun j => bfB T0 j i) n = cnt (fun j => bfB T j i) n := fun i hi => cnt_congr fun j hj => by
    unfold bfB; rw [hT _ _ hj hi, hT _ _ hi hj]
  have hk : ∀ k, k < n → cnt (fun j => bfB T0 j (p k)) n = k := fun k hk => by rw [he _ (hp.1 k hk)]; exact rank_of S hc ho hk
  refine ⟨fun i hi => ?_, fun a b ha hb hab => ?_, hk⟩
  · obtain ⟨k, hk1, rfl⟩ := hc.onto hi
    rw [hk k hk1]; exact hk1
  · obtain ⟨k, hk1, rfl⟩ := hc.onto ha
    obtain ⟨l, hl1, rfl⟩ := hc.onto hb
    rw [hk k hk1, hk l hl1] at hab
    rw [hab]

theorem OutR.rd {w w' : World} {n : Nat} {f : Nat → Int} {rk p : Nat → Nat} {e : Ending} (h : OutR w n f rk e w') (hp : ∀ k, k < n → p k < n) (hk : ∀ k, k < n → rk (p k) = k) :
    ∃ A c, e = .returned (.slice A n c) ∧ Rd w' w'.heap.size (Value.int .i64) A n (fun k => f (p k)) ∧ Below w.heap.size w w' := by
  obtain ⟨g, F, rfl, hg, hr, hP, hb⟩ := h
  exact ⟨_, n, rfl, fun _ => ⟨g, 0, rfl, hr.lt, fun i hi => by
    rw [Nat.zero_add, hr.cell hi]
    have := hP (p i) (hp i hi)
    rw [hk i hi] at this
    rw [this]⟩, hb⟩

set_option maxHeartbeats 2000000 in
theorem fnSortStableByOrderw (w : World) (A' : Option Addr) (n c' : Nat) (f : Nat → Int) (hf64 : ∀ i, I64 (f i)) (hl : n ≤ c') (hre : c' * 8 ≤ 140737488351232) (hrd' : Rd w w.heap.size (Value.int .i64) A' n f)
    (sz : Int) (A : Option Addr) (m c : Nat) (g : Nat → Bool) (hsz : I64 sz) (hlm : m ≤ c) (hrm : c ≤ 140737488351232) (hrd : Rd w w.heap.size Value.bool A m g) :
    Calls Try.prog 5 #[.slice A' n c', .agg #[.int .i64 sz, .slice A m c]] w fun e w' => e = .returned (.bool true) ∧ Below w.heap.size w w' := by
  have hm : m ≤ 140737488351232 := by omega
  have hn : n * 8 ≤ 140737488351232 := by omega
  have hnn : n ≤ 4611686018427387903 := by omega
  have HW := Lib.hid (fun w' (hb : Below w.heap.size w w') => weak sz A m c w.heap.size g A' n c' w.heap.size f w' hsz hm hb.size (hrd.keep hb (Nat.le_refl _)) hf64 hnn hb.size (hrd'.keep hb (Nat.le_refl _)))
  have HT := Lib.hid (fun w' (hb : Below w.heap.size w w') => toOrder sz A m c w.heap.size g w' hm hb.size (hrd.keep hb (Nat.le_refl _)))
  have HI := Lib.hid (fun (T : Nat → Nat → Bool) (hT : ∀ i j, i < n → j < n → T i j = relB sz m g (f i) (f j)) w' A1 c1 (hb : Below w.heap.size w w') (hr : Rd w' w'.heap.size Value.bool A1 m g) => implSortStableByOrder sz A1 m c1 w'.heap.size g A' n c' w.heap.size f T w' hsz hm (Nat.le_refl _) hr hf64 hn hb.size (hrd'.keep hb (Nat.le_refl _)) hT)
  have HS := Lib.hid (fun w' A1 c1 (hb : Below w.heap.size w w') (hr : Rd w' w'.heap.size Value.bool A1 m g) => specStableByOrder sz A1 m c1 w'.heap.size g A' n c' w.heap.size f w' hsz hm (Nat.le_refl _) hr hf64 hn hb.size (hrd'.keep hb (Nat.le_refl _)) _ (fun _ _ => rfl))
  have H0 := Lib.hid (BoxInv.first w sz A m c 33)
  clear hrd hrd' hf64 hre hl hlm hrm hsz
  generalize relB sz m g = r at *
  go_enter Try.func5, Try.ntmps5
  go_wp2_with fail
  refine (HW.out _ H0.out.bel).mono ?_
  rintro e w1 ⟨bw, rfl, hbw, hb1⟩
  have H1 := Lib.hid (H0.out.step hb1)
  have p0 := H1.out.c0
  have p1 := H1.out.c1
  clear hb1 H0
  cases bw
  · clear hbw
    go_wp2_with fail
    go_ret
    exact ⟨rfl, H1.out.bel⟩
  · obtain ⟨T, hS, hT⟩ := swo_of_weak (hbw.1 rfl)
    obtain ⟨k1, k2, k3⟩ := ranked hS hT
    have HI2 := Lib.hid (HI.out T hT)
    have HS2 := Lib.hid (fun w' A1 c1 hb hr => HS.out w' A1 c1 hb hr k1 k2)
    have hp := (stable_perm T n).1
    have HP := Lib.hid (And.intro hp k3)
    clear hbw hS hT k1 k2 k3 HI HS hp
    generalize stable (tabM T) n (fun k => k) = p at *
    have HB : Hid (BoxInv w sz A m c w1.drew) := Lib.hid (H1.out.drewN 1)
    go_wp2_with fail
    go_region_held3 (fun w' => w'.cell? ⟨w.heap.size, 0, none⟩ = some (.int .i64 sz) ∧ w'.cell? ⟨w.heap.size, 1, none⟩ = some (.slice A m c))
      (go_keep)
      (first
        | (go_at_call 24; refine (HT.out _ HB.out.bel).mono ?_; rintro e w3 ⟨A1, c1, rfl, hr1, hb3⟩; have HB := Lib.hid (HB.out.step hb3); have HR1 := Lib.hid hr1; have HBB := Lib.hid hb3; have q0 := HB.out.c0; have q1 := HB.out.c1; clear hb3 hr1)
        | (go_at_call 23; refine (HI2.out _ A1 c1 HB.out.bel HR1.out).mono ?_; rintro e w4 ⟨v4, rfl, ⟨G, hG, hF⟩, hb4⟩; obtain ⟨A4, c4, rfl, hr4⟩ := hG.rd (enc := Value.int .i64) (f := fun k => f (p k)) hF; have HB := Lib.hid (HB.out.step hb4); have HR4 := Lib.hid hr4; have q0 := HB.out.c0; have q1 := HB.out.c1; clear hb4 hr4 hG hF)
        | (go_at_call 27; refine (HS2.out _ A1 c1 HB.out.bel HR1.out).mono ?_; intro e w6 h6; obtain ⟨A6, c6, rfl, hr6, hb6⟩ := h6.rd HP.out.1 HP.out.2; have HR4 := Lib.hid ((HR4.out.keep HBB.out (Nat.le_refl _)).keep hb6 HBB.out.size); have HB := Lib.hid (HB.out.step hb6); have HR6 := Lib.hid hr6; have q0 := HB.out.c0; have q1 := HB.out.c1; clear hb6 hr6 h6)
        | (go_at_call 26; refine (sameInts n n c4 c6 A4 A6 _ _ _ _ _ hnn hnn HR4.out HR6.out).mono ?_; rintro e w7 ⟨b7, rfl, hb7, q7, rfl⟩; obtain rfl : b7 = true := hb7.2 ⟨rfl, fun _ _ => rfl⟩; have HB := Lib.hid (HB.out.drewN q7); have q0 := HB.out.c0; have q1 := HB.out.c1; clear hb7))
    go_wp2_with fail
    go_ret
    exact ⟨rfl, HB.out.bel⟩
end Go.Proofs.Ytkblfcdofgahhaa
