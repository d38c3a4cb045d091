/-
  No cell of these rows narrows 'for every input' (looked for: loops, veiled, ifaces, maps, wideKeys, modest, calm, conditions, laid).
  DERIVED. THE GIVEN ROWS OF THIS SEAT. 6 by the template 'for every input the law returns true; each argument reads behind the call as it read before'; 0 by the template 'total and deterministic' (their statements: YtjammaglboehcaaTotals.lean).
  GIVEN WITH THE SEED: the statements are not yours to turn. If you find one false, say at which input.
  Laid BY PROGRAM, IN A SANDBOX (cutbox-rows.mjs): the forced cells as the released guide's own fill.sh prints them over the translation 430aed6b22be0d37… (all of the seat's roots in one cut). By AI agents, Wed Nov 11 2026. No macro, syntax, notation, axiom, sorry.
-/
import Derived.Test.YtjammaglboehcaaChecked
import GoSem.Claim
import GoSem.ClaimJoined
import GoSem.ClaimMapViews
import Derived.JoinedTies
import Derived.KernelRfl
namespace Go.Proofs.Ytjammaglboehcaa
/- THE CELL 'sum', in the pinned program and in every row, IS THE sha256 OF THE DUMP (.gsa) THAT YtjammaglboehcaaProg.lean LOADS. Nothing in Lean hashes anything: it is a label: what it is worth is what the hold of that sum in a sandbox is worth. -/
noncomputable def Try.pinned : Pinned := { name := "ytjammaglboehcaa", sum := "430aed6b22be0d37e3b9c425028f27d377b42d36f335f00c666dea38ec7915b8", checked := Try.checked }
namespace Rows
def none {H : Type} : Left H := { results := [], args := [] }

/-- 'laws.FnItemSortsAgreeOnKeys': WHATEVER THE INPUT: true; the input reads as it did. -/
def fnItemSortsAgreeOnKeysSpec : ChangeSpec := { name := "fnItemSortsAgreeOnKeys", fn := fun _ => fun
  | [d] => { results := [.lit (.bool true)], args := [d] }
  | _ => none }
def fnItemSortsAgreeOnKeysRow : OpenClaim := { program := "ytjammaglboehcaa", sum := "430aed6b22be0d37e3b9c425028f27d377b42d36f335f00c666dea38ec7915b8", func := "loop.example/lib-g01184/laws.FnItemSortsAgreeOnKeys", spec := "fnItemSortsAgreeOnKeys", inPlace := ["internal/reflectlite.ValueOf", "internal/reflectlite.Swapper", "(internal/reflectlite.Value).Len"], unfollowed := true, recurses := true, apart := false }
def FnItemSortsAgreeOnKeysSaid : Prop := fnItemSortsAgreeOnKeysRow.holds Try.pinned (OpenSpec.ofChange fnItemSortsAgreeOnKeysSpec)

/-- ITS FALSE NEIGHBOUR: 'it returns false'. Refute it at one input. -/
def fnItemSortsAgreeOnKeysWrong : ChangeSpec := { name := "fnItemSortsAgreeOnKeys", fn := fun _ => fun
  | [d] => { results := [.lit (.bool false)], args := [d] }
  | _ => none }
def FnItemSortsAgreeOnKeysWrongFalsely : Prop := fnItemSortsAgreeOnKeysRow.holds Try.pinned (OpenSpec.ofChange fnItemSortsAgreeOnKeysWrong)

/-- 'laws.FnItemSortsKeepArgument': WHATEVER THE INPUT: true; the input reads as it did. -/
def fnItemSortsKeepArgumentSpec : ChangeSpec := { name := "fnItemSortsKeepArgument", fn := fun _ => fun
  | [d] => { results := [.lit (.bool true)], args := [d] }
  | _ => none }
def fnItemSortsKeepArgumentRow : OpenClaim := { program := "ytjammaglboehcaa", sum := "430aed6b22be0d37e3b9c425028f27d377b42d36f335f00c666dea38ec7915b8", func := "loop.example/lib-g01184/laws.FnItemSortsKeepArgument", spec := "fnItemSortsKeepArgument", inPlace := ["internal/reflectlite.ValueOf", "internal/reflectlite.Swapper", "(internal/reflectlite.Value).Len"], unfollowed := true, recurses := true, apart := false }
def FnItemSortsKeepArgumentSaid : Prop := fnItemSortsKeepArgumentRow.holds Try.pinned (OpenSpec.ofChange fnItemSortsKeepArgumentSpec)

/-- ITS FALSE NEIGHBOUR: 'it returns false'. Refute it at one input. -/
def fnItemSortsKeepArgumentWrong : ChangeSpec := { name := "fnItemSortsKeepArgument", fn := fun _ => fun
  | [d] => { results := [.lit (.bool false)], args := [d] }
  | _ => none }
def FnItemSortsKeepArgumentWrongFalsely : Prop := fnItemSortsKeepArgumentRow.holds Try.pinned (OpenSpec.ofChange fnItemSortsKeepArgumentWrong)

/-- 'laws.FnSortByNumbers': WHATEVER THE INPUT: true; the input reads as it did. -/
def fnSortByNumbersSpec : ChangeSpec := { name := "fnSortByNumbers", fn := fun _ => fun
  | [d1, d2] => { results := [.lit (.bool true)], args := [d1, d2] }
  | _ => none }
def fnSortByNumbersRow : OpenClaim := { program := "ytjammaglboehcaa", sum := "430aed6b22be0d37e3b9c425028f27d377b42d36f335f00c666dea38ec7915b8", func := "loop.example/lib-g01184/laws.FnSortByNumbers", spec := "fnSortByNumbers", unfollowed := true, recurses := true, apart := false }
def FnSortByNumbersSaid : Prop := fnSortByNumbersRow.holds Try.pinned (OpenSpec.ofChange fnSortByNumbersSpec)

/-- ITS FALSE NEIGHBOUR: 'it returns false'. Refute it at one input. -/
def fnSortByNumbersWrong : ChangeSpec := { name := "fnSortByNumbers", fn := fun _ => fun
  | [d1, d2] => { results := [.lit (.bool false)], args := [d1, d2] }
  | _ => none }
def FnSortByNumbersWrongFalsely : Prop := fnSortByNumbersRow.holds Try.pinned (OpenSpec.ofChange fnSortByNumbersWrong)

/-- 'laws.FnIsSortedItems': WHATEVER THE INPUT: true; the input reads as it did. -/
def fnIsSortedItemsSpec : ChangeSpec := { name := "fnIsSortedItems", fn := fun _ => fun
  | [d] => { results := [.lit (.bool true)], args := [d] }
  | _ => none }
def fnIsSortedItemsRow : OpenClaim := { program := "ytjammaglboehcaa", sum := "430aed6b22be0d37e3b9c425028f27d377b42d36f335f00c666dea38ec7915b8", func := "loop.example/lib-g01184/laws.FnIsSortedItems", spec := "fnIsSortedItems", unfollowed := true, recurses := true, apart := false }
def FnIsSortedItemsSaid : Prop := fnIsSortedItemsRow.holds Try.pinned (OpenSpec.ofChange fnIsSortedItemsSpec)

/-- ITS FALSE NEIGHBOUR: 'it returns false'. Refute it at one input. -/
def fnIsSortedItemsWrong : ChangeSpec := { name := "fnIsSortedItems", fn := fun _ => fun
  | [d] => { results := [.lit (.bool false)], args := [d] }
  | _ => none }
def FnIsSortedItemsWrongFalsely : Prop := fnIsSortedItemsRow.holds Try.pinned (OpenSpec.ofChange fnIsSortedItemsWrong)

/-- 'laws.FnOrderSortsKeepArgument': WHATEVER THE INPUT: true; the input reads as it did. -/
def fnOrderSortsKeepArgumentSpec : ChangeSpec := { name := "fnOrderSortsKeepArgument", fn := fun _ => fun
  | [d1, d2] => { results := [.lit (.bool true)], args := [d1, d2] }
  | _ => none }
def fnOrderSortsKeepArgumentRow : OpenClaim := { program := "ytjammaglboehcaa", sum := "430aed6b22be0d37e3b9c425028f27d377b42d36f335f00c666dea38ec7915b8", func := "loop.example/lib-g01184/laws.FnOrderSortsKeepArgument", spec := "fnOrderSortsKeepArgument", unfollowed := true, recurses := true, apart := false }
def FnOrderSortsKeepArgumentSaid : Prop := fnOrderSortsKeepArgumentRow.holds Try.pinned (OpenSpec.ofChange fnOrderSortsKeepArgumentSpec)

/-- ITS FALSE NEIGHBOUR: 'it returns false'. Refute it at one input. -/
def fnOrderSortsKeepArgumentWrong : ChangeSpec := { name := "fnOrderSortsKeepArgument", fn := fun _ => fun
  | [d1, d2] => { results := [.lit (.bool false)], args := [d1, d2] }
  | _ => none }
def FnOrderSortsKeepArgumentWrongFalsely : Prop := fnOrderSortsKeepArgumentRow.holds Try.pinned (OpenSpec.ofChange fnOrderSortsKeepArgumentWrong)

/-- 'laws.FnIsSortedOfOrder': WHATEVER THE INPUT: true; the input reads as it did. -/
def fnIsSortedOfOrderSpec : ChangeSpec := { name := "fnIsSortedOfOrder", fn := fun _ => fun
  | [d1, d2] => { results := [.lit (.bool true)], args := [d1, d2] }
  | _ => none }
def fnIsSortedOfOrderRow : OpenClaim := { program := "ytjammaglboehcaa", sum := "430aed6b22be0d37e3b9c425028f27d377b42d36f335f00c666dea38ec7915b8", func := "loop.example/lib-g01184/laws.FnIsSortedOfOrder", spec := "fnIsSortedOfOrder", unfollowed := true, recurses := true, apart := false }
def FnIsSortedOfOrderSaid : Prop := fnIsSortedOfOrderRow.holds Try.pinned (OpenSpec.ofChange fnIsSortedOfOrderSpec)

/-- ITS FALSE NEIGHBOUR: 'it returns false'. Refute it at one input. -/
def fnIsSortedOfOrderWrong : ChangeSpec := { name := "fnIsSortedOfOrder", fn := fun _ => fun
  | [d1, d2] => { results := [.lit (.bool false)], args := [d1, d2] }
  | _ => none }
def FnIsSortedOfOrderWrongFalsely : Prop := fnIsSortedOfOrderRow.holds Try.pinned (OpenSpec.ofChange fnIsSortedOfOrderWrong)

/- THE SECOND FORM. 'bulk': how many values and letters a reading holds, each counted each time it is reached (what is shared counts as often as it is met; a slice's spare places count too). A statement '..UptoSaid' is the law's where the arguments, and the package variables that the reading takes, are together of bulk at most 1048576: NARROWER than '..Said'. Prove '..Said' where nothing that the law and all that it calls make is longer than what came in: it says more and counts as full. Else prove '..UptoSaid'. A law counts once. -/
mutual
def uptoBulk {H : Type} : DataW H → Nat
  | .lit (.string bytes) => bytes.length + 1
  | .lit _ => 1
  | .nil => 1
  | .ptr d => uptoBulk d + 1
  | .slice elems spare => uptoBulkAll elems + uptoBulkAll spare + 1
  | .agg parts => uptoBulkAll parts + 1
  | .iface _ d => uptoBulk d + 1
  | .map entries => uptoBulkEntries entries + 1
  | .held _ => 1
def uptoBulkAll {H : Type} : List (DataW H) → Nat
  | [] => 0
  | d :: r => uptoBulk d + uptoBulkAll r
def uptoBulkEntries {H : Type} : List (Lit × DataW H) → Nat
  | [] => 0
  | x :: r => uptoBulkEntry x + uptoBulkEntries r
def uptoBulkEntry {H : Type} : Lit × DataW H → Nat
  | (.string bytes, d) => bytes.length + uptoBulk d + 1
  | (_, d) => uptoBulk d + 1
 end
def uptoSmall : (H : Type) → List (DataW H) → Bool := fun _ ds => decide (uptoBulkAll ds ≤ 1048576)
def OpenSpec.upto (s : _root_.Go.ChangeSpec) : _root_.Go.OpenSpec := { _root_.Go.OpenSpec.ofChange s with cond := some uptoSmall }

/-- 'laws.FnItemSortsAgreeOnKeys', WHERE WHAT IT READS IS OF BULK AT MOST 1048576: true; the input reads as it did. -/
def fnItemSortsAgreeOnKeysUptoRow : OpenClaim := { program := "ytjammaglboehcaa", sum := "430aed6b22be0d37e3b9c425028f27d377b42d36f335f00c666dea38ec7915b8", func := "loop.example/lib-g01184/laws.FnItemSortsAgreeOnKeys", spec := "fnItemSortsAgreeOnKeys", inPlace := ["internal/reflectlite.ValueOf", "internal/reflectlite.Swapper", "(internal/reflectlite.Value).Len"], unfollowed := true, recurses := true, apart := false, narrowed := true }
def FnItemSortsAgreeOnKeysUptoSaid : Prop := fnItemSortsAgreeOnKeysUptoRow.holds Try.pinned (OpenSpec.upto fnItemSortsAgreeOnKeysSpec)

/-- 'laws.FnItemSortsKeepArgument', WHERE WHAT IT READS IS OF BULK AT MOST 1048576: true; the input reads as it did. -/
def fnItemSortsKeepArgumentUptoRow : OpenClaim := { program := "ytjammaglboehcaa", sum := "430aed6b22be0d37e3b9c425028f27d377b42d36f335f00c666dea38ec7915b8", func := "loop.example/lib-g01184/laws.FnItemSortsKeepArgument", spec := "fnItemSortsKeepArgument", inPlace := ["internal/reflectlite.ValueOf", "internal/reflectlite.Swapper", "(internal/reflectlite.Value).Len"], unfollowed := true, recurses := true, apart := false, narrowed := true }
def FnItemSortsKeepArgumentUptoSaid : Prop := fnItemSortsKeepArgumentUptoRow.holds Try.pinned (OpenSpec.upto fnItemSortsKeepArgumentSpec)

/-- 'laws.FnSortByNumbers', WHERE WHAT IT READS IS OF BULK AT MOST 1048576: true; the input reads as it did. -/
def fnSortByNumbersUptoRow : OpenClaim := { program := "ytjammaglboehcaa", sum := "430aed6b22be0d37e3b9c425028f27d377b42d36f335f00c666dea38ec7915b8", func := "loop.example/lib-g01184/laws.FnSortByNumbers", spec := "fnSortByNumbers", unfollowed := true, recurses := true, apart := false, narrowed := true }
def FnSortByNumbersUptoSaid : Prop := fnSortByNumbersUptoRow.holds Try.pinned (OpenSpec.upto fnSortByNumbersSpec)

/-- 'laws.FnIsSortedItems', WHERE WHAT IT READS IS OF BULK AT MOST 1048576: true; the input reads as it did. -/
def fnIsSortedItemsUptoRow : OpenClaim := { program := "ytjammaglboehcaa", sum := "430aed6b22be0d37e3b9c425028f27d377b42d36f335f00c666dea38ec7915b8", func := "loop.example/lib-g01184/laws.FnIsSortedItems", spec := "fnIsSortedItems", unfollowed := true, recurses := true, apart := false, narrowed := true }
def FnIsSortedItemsUptoSaid : Prop := fnIsSortedItemsUptoRow.holds Try.pinned (OpenSpec.upto fnIsSortedItemsSpec)

/-- 'laws.FnOrderSortsKeepArgument', WHERE WHAT IT READS IS OF BULK AT MOST 1048576: true; the input reads as it did. -/
def fnOrderSortsKeepArgumentUptoRow : OpenClaim := { program := "ytjammaglboehcaa", sum := "430aed6b22be0d37e3b9c425028f27d377b42d36f335f00c666dea38ec7915b8", func := "loop.example/lib-g01184/laws.FnOrderSortsKeepArgument", spec := "fnOrderSortsKeepArgument", unfollowed := true, recurses := true, apart := false, narrowed := true }
def FnOrderSortsKeepArgumentUptoSaid : Prop := fnOrderSortsKeepArgumentUptoRow.holds Try.pinned (OpenSpec.upto fnOrderSortsKeepArgumentSpec)

/-- 'laws.FnIsSortedOfOrder', WHERE WHAT IT READS IS OF BULK AT MOST 1048576: true; the input reads as it did. -/
def fnIsSortedOfOrderUptoRow : OpenClaim := { program := "ytjammaglboehcaa", sum := "430aed6b22be0d37e3b9c425028f27d377b42d36f335f00c666dea38ec7915b8", func := "loop.example/lib-g01184/laws.FnIsSortedOfOrder", spec := "fnIsSortedOfOrder", unfollowed := true, recurses := true, apart := false, narrowed := true }
def FnIsSortedOfOrderUptoSaid : Prop := fnIsSortedOfOrderUptoRow.holds Try.pinned (OpenSpec.upto fnIsSortedOfOrderSpec)

end Rows
end Go.Proofs.Ytjammaglboehcaa
