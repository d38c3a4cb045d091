/-
  No cell of these rows narrows 'for every input' (looked for: loops, veiled, ifaces, maps, wideKeys, modest, calm, conditions, laid).
  DERIVED. THE GIVEN ROWS OF THIS SEAT. 11 by the template 'for every input the law returns true; each argument reads behind the call as it read before'; 0 by the template 'total and deterministic' (their statements: YtkklbnheiganlaaTotals.lean).
  GIVEN WITH THE SEED: the statements are not yours to turn. If you find one false, say at which input.
  Laid BY PROGRAM, IN A SANDBOX (cutbox-rows.mjs): the forced cells as the released guide's own fill.sh prints them over the translation b584000bc720d78b… (all of the seat's roots in one cut). By AI agents, Wed Nov 11 2026. No macro, syntax, notation, axiom, sorry.
-/
import Derived.Test.YtkklbnheiganlaaChecked
import GoSem.Claim
import GoSem.ClaimJoined
import GoSem.ClaimMapViews
import Derived.JoinedTies
import Derived.KernelRfl
namespace Go.Proofs.Ytkklbnheiganlaa
/- THE CELL 'sum', in the pinned program and in every row, IS THE sha256 OF THE DUMP (.gsa) THAT YtkklbnheiganlaaProg.lean LOADS. Nothing in Lean hashes anything: it is a label: what it is worth is what the hold of that sum in a sandbox is worth. -/
noncomputable def Try.pinned : Pinned := { name := "ytkklbnheiganlaa", sum := "b584000bc720d78ba6d9ca714103143aedd377e912e07a8f1ed37d11b788e539", checked := Try.checked }
namespace Rows
def none {H : Type} : Left H := { results := [], args := [] }

/-- 'laws.FnExactSortSortWhole': WHATEVER THE INPUT: true; the input reads as it did. -/
def fnExactSortSortWholeSpec : ChangeSpec := { name := "fnExactSortSortWhole", fn := fun _ => fun
  | [d] => { results := [.lit (.bool true)], args := [d] }
  | _ => none }
def fnExactSortSortWholeRow : OpenClaim := { program := "ytkklbnheiganlaa", sum := "b584000bc720d78ba6d9ca714103143aedd377e912e07a8f1ed37d11b788e539", func := "loop.example/lib-g01184/laws.FnExactSortSortWhole", spec := "fnExactSortSortWhole", unfollowed := true, recurses := true, apart := false }
def FnExactSortSortWholeSaid : Prop := fnExactSortSortWholeRow.holds Try.pinned (OpenSpec.ofChange fnExactSortSortWholeSpec)

/-- ITS FALSE NEIGHBOUR: 'it returns false'. Refute it at one input. -/
def fnExactSortSortWholeWrong : ChangeSpec := { name := "fnExactSortSortWhole", fn := fun _ => fun
  | [d] => { results := [.lit (.bool false)], args := [d] }
  | _ => none }
def FnExactSortSortWholeWrongFalsely : Prop := fnExactSortSortWholeRow.holds Try.pinned (OpenSpec.ofChange fnExactSortSortWholeWrong)

/-- 'laws.FnSortCalls': WHATEVER THE INPUT: true; the input reads as it did. -/
def fnSortCallsSpec : ChangeSpec := { name := "fnSortCalls", fn := fun _ => fun
  | [d1, d2] => { results := [.lit (.bool true)], args := [d1, d2] }
  | _ => none }
def fnSortCallsRow : OpenClaim := { program := "ytkklbnheiganlaa", sum := "b584000bc720d78ba6d9ca714103143aedd377e912e07a8f1ed37d11b788e539", func := "loop.example/lib-g01184/laws.FnSortCalls", spec := "fnSortCalls", unfollowed := true, recurses := true, apart := false }
def FnSortCallsSaid : Prop := fnSortCallsRow.holds Try.pinned (OpenSpec.ofChange fnSortCallsSpec)

/-- ITS FALSE NEIGHBOUR: 'it returns false'. Refute it at one input. -/
def fnSortCallsWrong : ChangeSpec := { name := "fnSortCalls", fn := fun _ => fun
  | [d1, d2] => { results := [.lit (.bool false)], args := [d1, d2] }
  | _ => none }
def FnSortCallsWrongFalsely : Prop := fnSortCallsRow.holds Try.pinned (OpenSpec.ofChange fnSortCallsWrong)

/-- 'laws.FnSortSortByAnyRelation': WHATEVER THE INPUT: true; the input reads as it did. -/
def fnSortSortByAnyRelationSpec : ChangeSpec := { name := "fnSortSortByAnyRelation", fn := fun _ => fun
  | [d1, d2] => { results := [.lit (.bool true)], args := [d1, d2] }
  | _ => none }
def fnSortSortByAnyRelationRow : OpenClaim := { program := "ytkklbnheiganlaa", sum := "b584000bc720d78ba6d9ca714103143aedd377e912e07a8f1ed37d11b788e539", func := "loop.example/lib-g01184/laws.FnSortSortByAnyRelation", spec := "fnSortSortByAnyRelation", unfollowed := true, recurses := true, apart := false }
def FnSortSortByAnyRelationSaid : Prop := fnSortSortByAnyRelationRow.holds Try.pinned (OpenSpec.ofChange fnSortSortByAnyRelationSpec)

/-- ITS FALSE NEIGHBOUR: 'it returns false'. Refute it at one input. -/
def fnSortSortByAnyRelationWrong : ChangeSpec := { name := "fnSortSortByAnyRelation", fn := fun _ => fun
  | [d1, d2] => { results := [.lit (.bool false)], args := [d1, d2] }
  | _ => none }
def FnSortSortByAnyRelationWrongFalsely : Prop := fnSortSortByAnyRelationRow.holds Try.pinned (OpenSpec.ofChange fnSortSortByAnyRelationWrong)

/-- 'laws.FnSortSortByOrder': WHATEVER THE INPUT: true; the input reads as it did. -/
def fnSortSortByOrderSpec : ChangeSpec := { name := "fnSortSortByOrder", fn := fun _ => fun
  | [d1, d2] => { results := [.lit (.bool true)], args := [d1, d2] }
  | _ => none }
def fnSortSortByOrderRow : OpenClaim := { program := "ytkklbnheiganlaa", sum := "b584000bc720d78ba6d9ca714103143aedd377e912e07a8f1ed37d11b788e539", func := "loop.example/lib-g01184/laws.FnSortSortByOrder", spec := "fnSortSortByOrder", unfollowed := true, recurses := true, apart := false }
def FnSortSortByOrderSaid : Prop := fnSortSortByOrderRow.holds Try.pinned (OpenSpec.ofChange fnSortSortByOrderSpec)

/-- ITS FALSE NEIGHBOUR: 'it returns false'. Refute it at one input. -/
def fnSortSortByOrderWrong : ChangeSpec := { name := "fnSortSortByOrder", fn := fun _ => fun
  | [d1, d2] => { results := [.lit (.bool false)], args := [d1, d2] }
  | _ => none }
def FnSortSortByOrderWrongFalsely : Prop := fnSortSortByOrderRow.holds Try.pinned (OpenSpec.ofChange fnSortSortByOrderWrong)

/-- 'laws.FnSortSortItemsSorts': WHATEVER THE INPUT: true; the input reads as it did. -/
def fnSortSortItemsSortsSpec : ChangeSpec := { name := "fnSortSortItemsSorts", fn := fun _ => fun
  | [d] => { results := [.lit (.bool true)], args := [d] }
  | _ => none }
def fnSortSortItemsSortsRow : OpenClaim := { program := "ytkklbnheiganlaa", sum := "b584000bc720d78ba6d9ca714103143aedd377e912e07a8f1ed37d11b788e539", func := "loop.example/lib-g01184/laws.FnSortSortItemsSorts", spec := "fnSortSortItemsSorts", unfollowed := true, recurses := true, apart := false }
def FnSortSortItemsSortsSaid : Prop := fnSortSortItemsSortsRow.holds Try.pinned (OpenSpec.ofChange fnSortSortItemsSortsSpec)

/-- ITS FALSE NEIGHBOUR: 'it returns false'. Refute it at one input. -/
def fnSortSortItemsSortsWrong : ChangeSpec := { name := "fnSortSortItemsSorts", fn := fun _ => fun
  | [d] => { results := [.lit (.bool false)], args := [d] }
  | _ => none }
def FnSortSortItemsSortsWrongFalsely : Prop := fnSortSortItemsSortsRow.holds Try.pinned (OpenSpec.ofChange fnSortSortItemsSortsWrong)

/-- 'laws.FnSortBySwaps': WHATEVER THE INPUT: true; the input reads as it did. -/
def fnSortBySwapsSpec : ChangeSpec := { name := "fnSortBySwaps", fn := fun _ => fun
  | [d1, d2] => { results := [.lit (.bool true)], args := [d1, d2] }
  | _ => none }
def fnSortBySwapsRow : OpenClaim := { program := "ytkklbnheiganlaa", sum := "b584000bc720d78ba6d9ca714103143aedd377e912e07a8f1ed37d11b788e539", func := "loop.example/lib-g01184/laws.FnSortBySwaps", spec := "fnSortBySwaps", unfollowed := true, recurses := true, apart := false }
def FnSortBySwapsSaid : Prop := fnSortBySwapsRow.holds Try.pinned (OpenSpec.ofChange fnSortBySwapsSpec)

/-- ITS FALSE NEIGHBOUR: 'it returns false'. Refute it at one input. -/
def fnSortBySwapsWrong : ChangeSpec := { name := "fnSortBySwaps", fn := fun _ => fun
  | [d1, d2] => { results := [.lit (.bool false)], args := [d1, d2] }
  | _ => none }
def FnSortBySwapsWrongFalsely : Prop := fnSortBySwapsRow.holds Try.pinned (OpenSpec.ofChange fnSortBySwapsWrong)

/-- 'laws.FnSortStableTwice': WHATEVER THE INPUT: true; the input reads as it did. -/
def fnSortStableTwiceSpec : ChangeSpec := { name := "fnSortStableTwice", fn := fun _ => fun
  | [d] => { results := [.lit (.bool true)], args := [d] }
  | _ => none }
def fnSortStableTwiceRow : OpenClaim := { program := "ytkklbnheiganlaa", sum := "b584000bc720d78ba6d9ca714103143aedd377e912e07a8f1ed37d11b788e539", func := "loop.example/lib-g01184/laws.FnSortStableTwice", spec := "fnSortStableTwice", unfollowed := true, recurses := true, apart := false }
def FnSortStableTwiceSaid : Prop := fnSortStableTwiceRow.holds Try.pinned (OpenSpec.ofChange fnSortStableTwiceSpec)

/-- ITS FALSE NEIGHBOUR: 'it returns false'. Refute it at one input. -/
def fnSortStableTwiceWrong : ChangeSpec := { name := "fnSortStableTwice", fn := fun _ => fun
  | [d] => { results := [.lit (.bool false)], args := [d] }
  | _ => none }
def FnSortStableTwiceWrongFalsely : Prop := fnSortStableTwiceRow.holds Try.pinned (OpenSpec.ofChange fnSortStableTwiceWrong)

/-- 'laws.FnSwapsByAnswers': WHATEVER THE INPUT: true; the input reads as it did. -/
def fnSwapsByAnswersSpec : ChangeSpec := { name := "fnSwapsByAnswers", fn := fun _ => fun
  | [d1, d2] => { results := [.lit (.bool true)], args := [d1, d2] }
  | _ => none }
def fnSwapsByAnswersRow : OpenClaim := { program := "ytkklbnheiganlaa", sum := "b584000bc720d78ba6d9ca714103143aedd377e912e07a8f1ed37d11b788e539", func := "loop.example/lib-g01184/laws.FnSwapsByAnswers", spec := "fnSwapsByAnswers", unfollowed := true, recurses := true, apart := false }
def FnSwapsByAnswersSaid : Prop := fnSwapsByAnswersRow.holds Try.pinned (OpenSpec.ofChange fnSwapsByAnswersSpec)

/-- ITS FALSE NEIGHBOUR: 'it returns false'. Refute it at one input. -/
def fnSwapsByAnswersWrong : ChangeSpec := { name := "fnSwapsByAnswers", fn := fun _ => fun
  | [d1, d2] => { results := [.lit (.bool false)], args := [d1, d2] }
  | _ => none }
def FnSwapsByAnswersWrongFalsely : Prop := fnSwapsByAnswersRow.holds Try.pinned (OpenSpec.ofChange fnSwapsByAnswersWrong)

/-- 'laws.FnWholeSortsAgree': WHATEVER THE INPUT: true; the input reads as it did. -/
def fnWholeSortsAgreeSpec : ChangeSpec := { name := "fnWholeSortsAgree", fn := fun _ => fun
  | [d] => { results := [.lit (.bool true)], args := [d] }
  | _ => none }
def fnWholeSortsAgreeRow : OpenClaim := { program := "ytkklbnheiganlaa", sum := "b584000bc720d78ba6d9ca714103143aedd377e912e07a8f1ed37d11b788e539", func := "loop.example/lib-g01184/laws.FnWholeSortsAgree", spec := "fnWholeSortsAgree", unfollowed := true, recurses := true, apart := false }
def FnWholeSortsAgreeSaid : Prop := fnWholeSortsAgreeRow.holds Try.pinned (OpenSpec.ofChange fnWholeSortsAgreeSpec)

/-- ITS FALSE NEIGHBOUR: 'it returns false'. Refute it at one input. -/
def fnWholeSortsAgreeWrong : ChangeSpec := { name := "fnWholeSortsAgree", fn := fun _ => fun
  | [d] => { results := [.lit (.bool false)], args := [d] }
  | _ => none }
def FnWholeSortsAgreeWrongFalsely : Prop := fnWholeSortsAgreeRow.holds Try.pinned (OpenSpec.ofChange fnWholeSortsAgreeWrong)

/-- 'laws.FnSortSortItemsKeys': WHATEVER THE INPUT: true; the input reads as it did. -/
def fnSortSortItemsKeysSpec : ChangeSpec := { name := "fnSortSortItemsKeys", fn := fun _ => fun
  | [d] => { results := [.lit (.bool true)], args := [d] }
  | _ => none }
def fnSortSortItemsKeysRow : OpenClaim := { program := "ytkklbnheiganlaa", sum := "b584000bc720d78ba6d9ca714103143aedd377e912e07a8f1ed37d11b788e539", func := "loop.example/lib-g01184/laws.FnSortSortItemsKeys", spec := "fnSortSortItemsKeys", unfollowed := true, recurses := true, apart := false }
def FnSortSortItemsKeysSaid : Prop := fnSortSortItemsKeysRow.holds Try.pinned (OpenSpec.ofChange fnSortSortItemsKeysSpec)

/-- ITS FALSE NEIGHBOUR: 'it returns false'. Refute it at one input. -/
def fnSortSortItemsKeysWrong : ChangeSpec := { name := "fnSortSortItemsKeys", fn := fun _ => fun
  | [d] => { results := [.lit (.bool false)], args := [d] }
  | _ => none }
def FnSortSortItemsKeysWrongFalsely : Prop := fnSortSortItemsKeysRow.holds Try.pinned (OpenSpec.ofChange fnSortSortItemsKeysWrong)

/-- 'laws.FnOrderOfMixed': WHATEVER THE INPUT: true; the input reads as it did. -/
def fnOrderOfMixedSpec : ChangeSpec := { name := "fnOrderOfMixed", fn := fun _ => fun
  | [d1, d2, d3] => { results := [.lit (.bool true)], args := [d1, d2, d3] }
  | _ => none }
def fnOrderOfMixedRow : OpenClaim := { program := "ytkklbnheiganlaa", sum := "b584000bc720d78ba6d9ca714103143aedd377e912e07a8f1ed37d11b788e539", func := "loop.example/lib-g01184/laws.FnOrderOfMixed", spec := "fnOrderOfMixed", unfollowed := true, recurses := true, apart := false }
def FnOrderOfMixedSaid : Prop := fnOrderOfMixedRow.holds Try.pinned (OpenSpec.ofChange fnOrderOfMixedSpec)

/-- ITS FALSE NEIGHBOUR: 'it returns false'. Refute it at one input. -/
def fnOrderOfMixedWrong : ChangeSpec := { name := "fnOrderOfMixed", fn := fun _ => fun
  | [d1, d2, d3] => { results := [.lit (.bool false)], args := [d1, d2, d3] }
  | _ => none }
def FnOrderOfMixedWrongFalsely : Prop := fnOrderOfMixedRow.holds Try.pinned (OpenSpec.ofChange fnOrderOfMixedWrong)

/- THE SECOND FORM. 'bulk': how many values and letters a reading holds, each counted each time it is reached (what is shared counts as often as it is met; a slice's spare places count too). A statement '..UptoSaid' is the law's where the arguments, and the package variables that the reading takes, are together of bulk at most 1048576: NARROWER than '..Said'. Prove '..Said' where nothing that the law and all that it calls make is longer than what came in: it says more and counts as full. Else prove '..UptoSaid'. A law counts once. -/
mutual
def uptoBulk {H : Type} : DataW H → Nat
  | .lit (.string bytes) => bytes.length + 1
  | .lit _ => 1
  | .nil => 1
  | .ptr d => uptoBulk d + 1
  | .slice elems spare => uptoBulkAll elems + uptoBulkAll spare + 1
  | .agg parts => uptoBulkAll parts + 1
  | .iface _ d => uptoBulk d + 1
  | .map entries => uptoBulkEntries entries + 1
  | .held _ => 1
def uptoBulkAll {H : Type} : List (DataW H) → Nat
  | [] => 0
  | d :: r => uptoBulk d + uptoBulkAll r
def uptoBulkEntries {H : Type} : List (Lit × DataW H) → Nat
  | [] => 0
  | x :: r => uptoBulkEntry x + uptoBulkEntries r
def uptoBulkEntry {H : Type} : Lit × DataW H → Nat
  | (.string bytes, d) => bytes.length + uptoBulk d + 1
  | (_, d) => uptoBulk d + 1
 end
def uptoSmall : (H : Type) → List (DataW H) → Bool := fun _ ds => decide (uptoBulkAll ds ≤ 1048576)
def OpenSpec.upto (s : _root_.Go.ChangeSpec) : _root_.Go.OpenSpec := { _root_.Go.OpenSpec.ofChange s with cond := some uptoSmall }

/-- 'laws.FnExactSortSortWhole', WHERE WHAT IT READS IS OF BULK AT MOST 1048576: true; the input reads as it did. -/
def fnExactSortSortWholeUptoRow : OpenClaim := { program := "ytkklbnheiganlaa", sum := "b584000bc720d78ba6d9ca714103143aedd377e912e07a8f1ed37d11b788e539", func := "loop.example/lib-g01184/laws.FnExactSortSortWhole", spec := "fnExactSortSortWhole", unfollowed := true, recurses := true, apart := false, narrowed := true }
def FnExactSortSortWholeUptoSaid : Prop := fnExactSortSortWholeUptoRow.holds Try.pinned (OpenSpec.upto fnExactSortSortWholeSpec)

/-- 'laws.FnSortCalls', WHERE WHAT IT READS IS OF BULK AT MOST 1048576: true; the input reads as it did. -/
def fnSortCallsUptoRow : OpenClaim := { program := "ytkklbnheiganlaa", sum := "b584000bc720d78ba6d9ca714103143aedd377e912e07a8f1ed37d11b788e539", func := "loop.example/lib-g01184/laws.FnSortCalls", spec := "fnSortCalls", unfollowed := true, recurses := true, apart := false, narrowed := true }
def FnSortCallsUptoSaid : Prop := fnSortCallsUptoRow.holds Try.pinned (OpenSpec.upto fnSortCallsSpec)

/-- 'laws.FnSortSortByAnyRelation', WHERE WHAT IT READS IS OF BULK AT MOST 1048576: true; the input reads as it did. -/
def fnSortSortByAnyRelationUptoRow : OpenClaim := { program := "ytkklbnheiganlaa", sum := "b584000bc720d78ba6d9ca714103143aedd377e912e07a8f1ed37d11b788e539", func := "loop.example/lib-g01184/laws.FnSortSortByAnyRelation", spec := "fnSortSortByAnyRelation", unfollowed := true, recurses := true, apart := false, narrowed := true }
def FnSortSortByAnyRelationUptoSaid : Prop := fnSortSortByAnyRelationUptoRow.holds Try.pinned (OpenSpec.upto fnSortSortByAnyRelationSpec)

/-- 'laws.FnSortSortByOrder', WHERE WHAT IT READS IS OF BULK AT MOST 1048576: true; the input reads as it did. -/
def fnSortSortByOrderUptoRow : OpenClaim := { program := "ytkklbnheiganlaa", sum := "b584000bc720d78ba6d9ca714103143aedd377e912e07a8f1ed37d11b788e539", func := "loop.example/lib-g01184/laws.FnSortSortByOrder", spec := "fnSortSortByOrder", unfollowed := true, recurses := true, apart := false, narrowed := true }
def FnSortSortByOrderUptoSaid : Prop := fnSortSortByOrderUptoRow.holds Try.pinned (OpenSpec.upto fnSortSortByOrderSpec)

/-- 'laws.FnSortSortItemsSorts', WHERE WHAT IT READS IS OF BULK AT MOST 1048576: true; the input reads as it did. -/
def fnSortSortItemsSortsUptoRow : OpenClaim := { program := "ytkklbnheiganlaa", sum := "b584000bc720d78ba6d9ca714103143aedd377e912e07a8f1ed37d11b788e539", func := "loop.example/lib-g01184/laws.FnSortSortItemsSorts", spec := "fnSortSortItemsSorts", unfollowed := true, recurses := true, apart := false, narrowed := true }
def FnSortSortItemsSortsUptoSaid : Prop := fnSortSortItemsSortsUptoRow.holds Try.pinned (OpenSpec.upto fnSortSortItemsSortsSpec)

/-- 'laws.FnSortBySwaps', WHERE WHAT IT READS IS OF BULK AT MOST 1048576: true; the input reads as it did. -/
def fnSortBySwapsUptoRow : OpenClaim := { program := "ytkklbnheiganlaa", sum := "b584000bc720d78ba6d9ca714103143aedd377e912e07a8f1ed37d11b788e539", func := "loop.example/lib-g01184/laws.FnSortBySwaps", spec := "fnSortBySwaps", unfollowed := true, recurses := true, apart := false, narrowed := true }
def FnSortBySwapsUptoSaid : Prop := fnSortBySwapsUptoRow.holds Try.pinned (OpenSpec.upto fnSortBySwapsSpec)

/-- 'laws.FnSortStableTwice', WHERE WHAT IT READS IS OF BULK AT MOST 1048576: true; the input reads as it did. -/
def fnSortStableTwiceUptoRow : OpenClaim := { program := "ytkklbnheiganlaa", sum := "b584000bc720d78ba6d9ca714103143aedd377e912e07a8f1ed37d11b788e539", func := "loop.example/lib-g01184/laws.FnSortStableTwice", spec := "fnSortStableTwice", unfollowed := true, recurses := true, apart := false, narrowed := true }
def FnSortStableTwiceUptoSaid : Prop := fnSortStableTwiceUptoRow.holds Try.pinned (OpenSpec.upto fnSortStableTwiceSpec)

/-- 'laws.FnSwapsByAnswers', WHERE WHAT IT READS IS OF BULK AT MOST 1048576: true; the input reads as it did. -/
def fnSwapsByAnswersUptoRow : OpenClaim := { program := "ytkklbnheiganlaa", sum := "b584000bc720d78ba6d9ca714103143aedd377e912e07a8f1ed37d11b788e539", func := "loop.example/lib-g01184/laws.FnSwapsByAnswers", spec := "fnSwapsByAnswers", unfollowed := true, recurses := true, apart := false, narrowed := true }
def FnSwapsByAnswersUptoSaid : Prop := fnSwapsByAnswersUptoRow.holds Try.pinned (OpenSpec.upto fnSwapsByAnswersSpec)

/-- 'laws.FnWholeSortsAgree', WHERE WHAT IT READS IS OF BULK AT MOST 1048576: true; the input reads as it did. -/
def fnWholeSortsAgreeUptoRow : OpenClaim := { program := "ytkklbnheiganlaa", sum := "b584000bc720d78ba6d9ca714103143aedd377e912e07a8f1ed37d11b788e539", func := "loop.example/lib-g01184/laws.FnWholeSortsAgree", spec := "fnWholeSortsAgree", unfollowed := true, recurses := true, apart := false, narrowed := true }
def FnWholeSortsAgreeUptoSaid : Prop := fnWholeSortsAgreeUptoRow.holds Try.pinned (OpenSpec.upto fnWholeSortsAgreeSpec)

/-- 'laws.FnSortSortItemsKeys', WHERE WHAT IT READS IS OF BULK AT MOST 1048576: true; the input reads as it did. -/
def fnSortSortItemsKeysUptoRow : OpenClaim := { program := "ytkklbnheiganlaa", sum := "b584000bc720d78ba6d9ca714103143aedd377e912e07a8f1ed37d11b788e539", func := "loop.example/lib-g01184/laws.FnSortSortItemsKeys", spec := "fnSortSortItemsKeys", unfollowed := true, recurses := true, apart := false, narrowed := true }
def FnSortSortItemsKeysUptoSaid : Prop := fnSortSortItemsKeysUptoRow.holds Try.pinned (OpenSpec.upto fnSortSortItemsKeysSpec)

/-- 'laws.FnOrderOfMixed', WHERE WHAT IT READS IS OF BULK AT MOST 1048576: true; the input reads as it did. -/
def fnOrderOfMixedUptoRow : OpenClaim := { program := "ytkklbnheiganlaa", sum := "b584000bc720d78ba6d9ca714103143aedd377e912e07a8f1ed37d11b788e539", func := "loop.example/lib-g01184/laws.FnOrderOfMixed", spec := "fnOrderOfMixed", unfollowed := true, recurses := true, apart := false, narrowed := true }
def FnOrderOfMixedUptoSaid : Prop := fnOrderOfMixedUptoRow.holds Try.pinned (OpenSpec.upto fnOrderOfMixedSpec)

end Rows
end Go.Proofs.Ytkklbnheiganlaa
