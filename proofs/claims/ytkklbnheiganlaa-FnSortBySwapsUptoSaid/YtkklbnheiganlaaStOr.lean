/-
  The walks of impl.numbers and impl.SortStableByOrder.
-/
import Derived.Test.YtkklbnheiganlaaStO
import Derived.Test.YtkklbnheiganlaaStR
import Derived.Test.YtkklbnheiganlaaIsO
namespace Go.Proofs.Ytkklbnheiganlaa
open Go.RowKit Go.Proofs
set_option linter.unusedVariables false

theorem infoIntS : (Try.prog.info? 3).map (fun i => (i.zero, i.size, i.bytes)) = some (some (.int .i64 0), 1, 8) := by kernel_rfl

set_option maxHeartbeats 1000000 in
theorem numbers (A : Option Addr) (n c B : Nat) (f : Nat → Int) (w : World) (hn : n * 8 ≤ 140737488351232) (hrd : Rd w B (Value.int .i64) A n f) :
    Calls Try.prog 50 #[.slice A n c] w fun e w' => ∃ v, e = .returned v ∧ Copied w 3 1 (fun j => .int .i64 (f j)) v n w' := by
  obtain ⟨i, hi, hz, hs, hby⟩ := info_parts infoIntS
  have HR := Lib.hid hrd; clear hrd
  go_enter Try.func50, Try.ntmps50
  go_wp2_with (at_builtin; refine wpList_copy_nil rfl _ _ 30 rfl 3 i _ 1 8 Try.underlying30 hi hz hs hby rfl (by omega) A n c (fun j => .int .i64 (f j)) rfl rfl (fun h => by obtain ⟨b, off, hA, _, hc⟩ := HR.out h; exact ⟨b, off, hA, fun j hj => hc j (by omega)⟩) (fun j hj => by simp [Value.oneCell']) (by simp [maxLen]; omega) (by omega) ?_; intro v1 w1 hcp; have HCp := Lib.hid hcp; clear hcp)
  go_ret
  exact ⟨v1, rfl, HCp.out⟩

/-- A list of the call's own: the elements of f in the order p. -/
def OutP (w : World) (n : Nat) (f : Nat → Int) (p : Nat → Nat) (e : Ending) (w' : World) : Prop :=
  ∃ v, e = .returned v ∧ (∃ G : Nat → Value, OwnRow w' w.heap.size 3 1 v n G ∧ ∀ k, k < n → G k = .int .i64 (f (p k))) ∧ Below w.heap.size w w'

theorem ordered_swap (v : Array Value) (w : World) : (method 262 67 (.agg v) "Swap").run Try.prog w = .ok (154, .agg v) w := by kernel_rfl
theorem ordered_es : ∀ args w, (callFunc 154 args).run Try.prog w = .ok (.enter 154 args) w := enters_of Try.func154 (by kernel_rfl) rfl

/-- ordered over a row of its own, as a value with Less and Swap. -/
theorem orderedS (sz : Int) (A : Option Addr) (m c B : Nat) (gb : Nat → Bool) (g n cap len : Nat) (f : Nat → Int) (G : Nat → Value) (T : Nat → Nat → Bool) (w0 : World) (hsz : I64 sz) (hm : m ≤ 140737488351232) (hB : B ≤ g) (hrd : Rd w0 B Value.bool A m gb)
    (hf64 : ∀ i, I64 (f i)) (hn : n ≤ 1152921504606846975) (hT : ∀ i j, i < n → j < n → T i j = relB sz m gb (f i) (f j)) :
    IfaceS (tabM T) (fun _ => True) (fun p w => RowP w0 g 3 n len (fun k => .int .i64 (f k)) G p w ∧ PermN n p) 67 (.agg #[.slice (some ⟨g, 0, none⟩) n cap, .int .i64 sz, .slice A m c]) 153 154 n where
  guard := tabM_guard T
  hn := hn
  mL := ordered_less _
  mS := ordered_swap _
  eL := ordered_el
  eS := ordered_es
  less := fun p w i j hi hj hR _ => by
    have hgB : g < w.heap.size := hR.1.lt
    refine (orderedLess (some ⟨g, 0, none⟩) n cap sz A m c i j B w.heap.size gb (fun k => f (p k)) w hsz hm (by omega) (hrd.keep hR.1.1 hB) (fun k => hf64 _) (by omega) (Nat.le_refl _)
      (fun _ => ⟨g, 0, rfl, hgB, fun k hk => by rw [Nat.zero_add]; exact hR.1.cell hk⟩) hi hj).mono fun e w' h => ⟨?_, hR.1.keep h.2, hR.2⟩
    rw [h.1]
    show _ = Ending.returned (.bool (T (p i) (p j)))
    rw [hT _ _ (hR.2.1 i hi) (hR.2.1 j hj)]
  swap := fun p w i j hi hj hR _ => by
    refine (orderedSwap g n cap sz A m c i j (f (p i)) (f (p j)) w (by omega) hi hj hR.1.lt (hR.1.cell hi) (hR.1.cell hj) (hR.1.frozen i) (hR.1.frozen j)).mono fun e w' h => ⟨h.1, ?_, permN_swap hR.2 hi hj⟩
    obtain ⟨q, o, rfl⟩ := h.2
    exact ((hR.1.keep ((Below.refl w.heap.size w).alloc (Nat.le_refl _) o)).swap hi hj).drewN q

end Go.Proofs.Ytkklbnheiganlaa
