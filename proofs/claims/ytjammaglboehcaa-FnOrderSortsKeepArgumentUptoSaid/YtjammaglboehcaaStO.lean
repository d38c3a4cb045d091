/-
  sort.Stable at an interface, and the methods of ordered over memory.
-/
import Derived.Test.YtjammaglboehcaaStI4
import Derived.Test.YtjammaglboehcaaZA
import Derived.Test.YtjammaglboehcaaOrd2
import Derived.BigRegion
namespace Go.Proofs.Ytjammaglboehcaa
open Go.RowKit Go.Proofs
set_option linter.unusedVariables false

section
variable {σ : Type} {M : Mach σ} {ok : σ → Prop} {R : σ → World → Prop} {T : TypeId} {rv : Value} {gl gs n : Nat}
set_option maxHeartbeats 1000000 in
theorem sortStable (H : IfaceS M ok R T rv gl gs n) (gn : Nat) (mN : ∀ w, (method 266 T rv "Len").run Try.prog w = .ok (gn, rv) w) (eN : ∀ args w, (callFunc gn args).run Try.prog w = .ok (.enter gn args) w)
    (s0 s : σ) (w : World) (hN : Calls Try.prog gn #[rv] w fun e w' => e = .returned (.int .i64 n) ∧ R s w') (hok : ok (stable M n s)) :
    Calls Try.prog 39 #[.iface T rv] w (Leaves R (stable M n s)) := by
  have HN := Lib.hid hN
  have HS := Lib.hid (fun w' hR => stableI H s w' hR hok)
  clear hN H hok
  go_enter Try.func39, Try.ntmps39
  go_wp2_with fail
  refine HN.out.mono ?_
  rintro e w1 ⟨rfl, hR1⟩
  have HR1 := Lib.hid hR1; clear hR1
  go_wp2_with fail
  refine (HS.out _ HR1.out).mono ?_
  rintro e w2 ⟨rfl, hR2⟩
  have HR2 := Lib.hid hR2; clear hR2
  go_wp2_with fail
  go_end0
  exact ⟨rfl, HR2.out⟩
end

set_option maxHeartbeats 2000000 in
theorem orderedSwap (g n cap : Nat) (sz : Int) (A : Option Addr) (m c i j : Nat) (x y : Int) (w : World) (hn : n ≤ 4611686018427387903) (hi : i < n) (hj : j < n) (hg : g < w.heap.size)
    (hx : w.cell? ⟨g, i, none⟩ = some (.int .i64 x)) (hy : w.cell? ⟨g, j, none⟩ = some (.int .i64 y)) (fx : w.frozen? ⟨g, i, none⟩ = false) (fy : w.frozen? ⟨g, j, none⟩ = false) :
    Calls Try.prog 173 #[.agg #[.slice (some ⟨g, 0, none⟩) n cap, .int .i64 sz, .slice A m c], .int .i64 i, .int .i64 j] w fun e w' => e = .returned (.tuple #[]) ∧ ∃ q o, w' = (((w.alloc o).setCell ⟨g, i, none⟩ (.int .i64 y)).setCell ⟨g, j, none⟩ (.int .i64 x)).drewN q := by
  have hil : (i : Int) < (n : Int) := by omega
  have hjl : (j : Int) < (n : Int) := by omega
  have hbx : ∀ o : Obj, (w.alloc o).heap.size = w.heap.size + 1 := fun o => by simp
  go_enter Try.func173, Try.ntmps173
  go_wp2_with fail
  generalize hV : w.alloc (.cells #[.slice (some ⟨g, 0, none⟩) n cap, .int .i64 sz, .slice A m c] 62) = V
  have z0 : V.cell? ⟨w.heap.size, 0, none⟩ = some (.slice (some ⟨g, 0, none⟩) n cap) := by subst hV; simp [go_sem]
  have hxa : V.cell? ⟨g, i, none⟩ = some (.int .i64 x) := by subst hV; exact cell_alloc _ hx
  have hya : V.cell? ⟨g, j, none⟩ = some (.int .i64 y) := by subst hV; exact cell_alloc _ hy
  have fxa : V.frozen? ⟨g, i, none⟩ = false := by subst hV; rw [((Below.refl w.heap.size w).alloc (Nat.le_refl _) _).frozen (p := ⟨g, i, none⟩) hg]; exact fx
  have fya : V.frozen? ⟨g, j, none⟩ = false := by subst hV; rw [((Below.refl w.heap.size w).alloc (Nat.le_refl _) _).frozen (p := ⟨g, j, none⟩) hg]; exact fy
  have hne : ¬ (g = w.heap.size) := by omega
  have hne2 : ¬ (w.heap.size = g) := by omega
  have HV := Lib.hid hV; clear hV hx hy fx fy hbx
  generalize w.heap.size = B at *
  have hsc : (V.setCell ⟨g, i, none⟩ (.int .i64 y)).cell? ⟨g, j, none⟩ = some (.int .i64 y) := by
    by_cases hij : i = j
    · subst hij; exact World.cell?_setCell_same _ _ _ hxa
    · rw [World.cell?_setCell_other _ _ _ _ (fun h => hij (Addr.mk.inj h).2.1)]; exact hya
  go_region
  go_wp2_with fail
  go_end0
  exact ⟨rfl, 1, _, by rw [HV.out]; rfl⟩
end Go.Proofs.Ytjammaglboehcaa
