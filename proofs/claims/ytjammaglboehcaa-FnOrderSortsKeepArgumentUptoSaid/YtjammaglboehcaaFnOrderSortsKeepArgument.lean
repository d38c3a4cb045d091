/-
  Proved here: the given statement Rows.FnOrderSortsKeepArgumentUptoSaid: for every input of bulk at most 1048576 the law returns true, and each argument reads afterwards as it read before.
-/
import Derived.Test.YtjammaglboehcaaRows
import Derived.Test.YtjammaglboehcaaPqL9
import Derived.ProofKit
import Derived.ShutString
import Derived.ChangeOld
import Derived.Below
import Derived.Lib.SmallJoins
import Derived.Test.YtjammaglboehcaaUptoW
import Derived.JoinedCond
import Derived.Deep.CondSized
namespace Go.Proofs.Ytjammaglboehcaa.fnOrderSortsKeepArgument
open Go.ChangeShapes Go.WideShapes Go.ChangeAt Go.RowKit Go.Joins
open Go.ChangeMaps (open_string shut_string)
set_option linter.unusedVariables false

theorem own : ownKnob Try.prog.godebug = none := by kernel_rfl
theorem laidOut : laidOutB Try.prog = true := by kernel_rfl

set_option maxRecDepth 100000 in
theorem lifted (os : Os) (started : os.Started) (H : Type) (enc : TypeId × Value → H) (FF : Stop.Interp) :
    ReturnsInHanded {} Try.checked os 7 .any ((Rows.OpenSpec.upto Rows.fnOrderSortsKeepArgumentSpec).pre6 enc Try.prog Try.f7 Rows.fnOrderSortsKeepArgumentUptoRow.domain false) (((Rows.OpenSpec.upto Rows.fnOrderSortsKeepArgumentSpec).at FF).post enc Try.prog Try.f7 false true false false) := by
  refine returnsInHanded_of_cond_sized (C := Try.checked) (s := Rows.OpenSpec.upto Rows.fnOrderSortsKeepArgumentSpec) (k := Rows.uptoSmall) rfl own started (by kernel_rfl) Try.func7
    (OpenSpec.witness (enc := enc) (C := Try.checked) (s := Rows.OpenSpec.upto Rows.fnOrderSortsKeepArgumentSpec) (k := Rows.uptoSmall) rfl false ⟨#[], #[.slice none 0 0, .agg #[.int .i64 0, .slice none 0 0]], []⟩ 8 (by kernel_rfl) (by kernel_rfl) (by kernel_rfl)
      (x := ([.nil, .agg [.lit (.int .i64 0), .nil]], [], [])) (by kernel_rfl) rfl (by kernel_rfl)) ?_
  intro W base args ds gs before hval0 hW _ hk hsz _
  have hval : ∀ (j : Nat) t v, Try.f7.params[j]? = some t → args[j]? = some v → Value.okWide Try.prog W .any base t v := hval0
  have hW' := hW
  obtain ⟨p, q, hA0, hV, rfl, hfz, hnd⟩ := hW
  have hA : DataW.TrodAll enc Try.prog W 0 (fun _ => true) true Try.f7.params.toList args.toList ds p := hA0
  rw [Try.params7] at hA hval
  obtain ⟨v0, vs0, d0, ds0, p0, q0, hargs, rfl, rfl, h0, r0⟩ := trodAll_cons hA
  obtain ⟨v1, vs1, d1, ds1, p1, q1, rfl, rfl, rfl, h1, r1⟩ := trodAll_cons r0
  obtain ⟨rfl, rfl, rfl⟩ := trodAll_nil r1
  obtain rfl : args = #[v0, v1] := by cases args; simp_all
  obtain ⟨rfl, rfl⟩ := trodVars_none hV
  have k0 := h0
  have lt0 : ∀ x ∈ p0, x.block < W.heap.size := by obtain ⟨m, hm⟩ := k0; exact DataW.trod_lt m _ _ _ hm
  obtain ⟨a0, n0, c0, rfl⟩ := okWide_slice Try.underlying25 (hval 0 25 v0 rfl rfl)
  obtain ⟨f0, b0, lc0, rd0, rm0⟩ := in_ints Try.underlying25 Try.underlying3 (by kernel_rfl) h0
  have re0 : c0 * 8 ≤ 140737488351232 := room_reach hsz (j := 0) rfl rfl Try.underlying25 (by kernel_rfl) rm0
  have k1 := h1
  have lt1 : ∀ x ∈ p1, x.block < W.heap.size := by obtain ⟨m, hm⟩ := k1; exact DataW.trod_lt m _ _ _ hm
  obtain ⟨sz1, a1, n1, c1, y1, rfl, ws1, rfl, lc1, f1, rd1, rm1⟩ := in_order Try.underlying38 (by kernel_rfl) (by kernel_rfl) Try.underlying3 Try.underlying31 Try.underlying4 (by kernel_rfl) (hval 1 38 v1 rfl rfl) h1
  have re1 : c1 ≤ 140737488351232 := order_reach hsz (j := 1) rfl rfl Try.underlying38 (by kernel_rfl) Try.underlying31 rm1
  clear hA0 hval0
  have bk0 := bulk_room hk (j := 0) rfl rm0
  have bk1 := bulk_order hk (j := 1) rfl rm1
  refine (fnOrderSortsKeepArgumentw W a0 n0 c0 f0 b0 lc0 re0 rd0 sz1 a1 n1 c1 f1 ws1 lc1 re1 rd1 bk0 bk1).mono fun e W' ⟨he, bel⟩ => ?_
  subst he
  exact ⟨_, rfl, _, _, _, [], _, [], hW', trodAll_mk1 (shut_bool Try.underlying4 _), (trodAll_cons_mk (Below.trod laidOut (by kernel_rfl) (of_decide_eq_true (by kernel_rfl)) k0 bel lt0) (trodAll_cons_mk (Below.trod laidOut (by kernel_rfl) (of_decide_eq_true (by kernel_rfl)) k1 bel lt1) trodAll_mk0)), rfl, bel.frame _, fun h => by cases h⟩

theorem proved : Rows.FnOrderSortsKeepArgumentUptoSaid :=
  OpenClaim.holds_of_cond 7 Try.f7 rfl rfl rfl rfl rfl rfl rfl ⟨rfl, rfl, rfl, rfl, rfl⟩ rfl rfl rfl rfl rfl (by kernel_rfl) Try.func7 (by kernel_rfl)
    (of_decide_eq_true (by kernel_rfl)) (by unfold Func.isWrapper; first | (rw [if_pos (by decide +kernel)]; kernel_rfl) | (rw [if_neg (by decide +kernel)]; exact ⟨rfl, rfl⟩))
    (fun os started H enc _ FF => lifted os started H enc FF)
#print axioms proved
end Go.Proofs.Ytjammaglboehcaa.fnOrderSortsKeepArgument
