/-
  No cell of these rows narrows 'for every input' (looked for: loops, veiled, ifaces, maps, wideKeys, modest, calm, conditions, laid).
  DERIVED. THE GIVEN ROWS OF THIS SEAT. 12 by the template 'for every input the law returns true; each argument reads behind the call as it read before'; 0 by the template 'total and deterministic' (their statements: YtkblfcdofgahhaaTotals.lean).
  GIVEN WITH THE SEED: the statements are not yours to turn. If you find one false, say at which input.
  Laid BY PROGRAM, IN A SANDBOX (cutbox-rows.mjs): the forced cells as the released guide's own fill.sh prints them over the translation b63a5eb1908ff7ee… (all of the seat's roots in one cut). By AI agents, Wed Nov 11 2026. No macro, syntax, notation, axiom, sorry.
-/
import Derived.Test.YtkblfcdofgahhaaChecked
import GoSem.Claim
import GoSem.ClaimJoined
import GoSem.ClaimMapViews
import Derived.JoinedTies
import Derived.KernelRfl
namespace Go.Proofs.Ytkblfcdofgahhaa
/- THE CELL 'sum', in the pinned program and in every row, IS THE sha256 OF THE DUMP (.gsa) THAT YtkblfcdofgahhaaProg.lean LOADS. Nothing in Lean hashes anything: it is a label: what it is worth is what the hold of that sum in a sandbox is worth. -/
noncomputable def Try.pinned : Pinned := { name := "ytkblfcdofgahhaa", sum := "b63a5eb1908ff7eeab0c3f1aef84045e9c42160430f8e3895fb2f14920b2223f", checked := Try.checked }
namespace Rows
def none {H : Type} : Left H := { results := [], args := [] }

/-- 'laws.FnExactSortStableItems': WHATEVER THE INPUT: true; the input reads as it did. -/
def fnExactSortStableItemsSpec : ChangeSpec := { name := "fnExactSortStableItems", fn := fun _ => fun
  | [d] => { results := [.lit (.bool true)], args := [d] }
  | _ => none }
def fnExactSortStableItemsRow : OpenClaim := { program := "ytkblfcdofgahhaa", sum := "b63a5eb1908ff7eeab0c3f1aef84045e9c42160430f8e3895fb2f14920b2223f", func := "loop.example/lib-g01184/laws.FnExactSortStableItems", spec := "fnExactSortStableItems", unfollowed := true, recurses := true, apart := false }
def FnExactSortStableItemsSaid : Prop := fnExactSortStableItemsRow.holds Try.pinned (OpenSpec.ofChange fnExactSortStableItemsSpec)

/-- ITS FALSE NEIGHBOUR: 'it returns false'. Refute it at one input. -/
def fnExactSortStableItemsWrong : ChangeSpec := { name := "fnExactSortStableItems", fn := fun _ => fun
  | [d] => { results := [.lit (.bool false)], args := [d] }
  | _ => none }
def FnExactSortStableItemsWrongFalsely : Prop := fnExactSortStableItemsRow.holds Try.pinned (OpenSpec.ofChange fnExactSortStableItemsWrong)

/-- 'laws.FnSortStableByAnyRelation': WHATEVER THE INPUT: true; the input reads as it did. -/
def fnSortStableByAnyRelationSpec : ChangeSpec := { name := "fnSortStableByAnyRelation", fn := fun _ => fun
  | [d1, d2] => { results := [.lit (.bool true)], args := [d1, d2] }
  | _ => none }
def fnSortStableByAnyRelationRow : OpenClaim := { program := "ytkblfcdofgahhaa", sum := "b63a5eb1908ff7eeab0c3f1aef84045e9c42160430f8e3895fb2f14920b2223f", func := "loop.example/lib-g01184/laws.FnSortStableByAnyRelation", spec := "fnSortStableByAnyRelation", unfollowed := true, recurses := true, apart := false }
def FnSortStableByAnyRelationSaid : Prop := fnSortStableByAnyRelationRow.holds Try.pinned (OpenSpec.ofChange fnSortStableByAnyRelationSpec)

/-- ITS FALSE NEIGHBOUR: 'it returns false'. Refute it at one input. -/
def fnSortStableByAnyRelationWrong : ChangeSpec := { name := "fnSortStableByAnyRelation", fn := fun _ => fun
  | [d1, d2] => { results := [.lit (.bool false)], args := [d1, d2] }
  | _ => none }
def FnSortStableByAnyRelationWrongFalsely : Prop := fnSortStableByAnyRelationRow.holds Try.pinned (OpenSpec.ofChange fnSortStableByAnyRelationWrong)

/-- 'laws.FnSortStableByOrder': WHATEVER THE INPUT: true; the input reads as it did. -/
def fnSortStableByOrderSpec : ChangeSpec := { name := "fnSortStableByOrder", fn := fun _ => fun
  | [d1, d2] => { results := [.lit (.bool true)], args := [d1, d2] }
  | _ => none }
def fnSortStableByOrderRow : OpenClaim := { program := "ytkblfcdofgahhaa", sum := "b63a5eb1908ff7eeab0c3f1aef84045e9c42160430f8e3895fb2f14920b2223f", func := "loop.example/lib-g01184/laws.FnSortStableByOrder", spec := "fnSortStableByOrder", unfollowed := true, recurses := true, apart := false }
def FnSortStableByOrderSaid : Prop := fnSortStableByOrderRow.holds Try.pinned (OpenSpec.ofChange fnSortStableByOrderSpec)

/-- ITS FALSE NEIGHBOUR: 'it returns false'. Refute it at one input. -/
def fnSortStableByOrderWrong : ChangeSpec := { name := "fnSortStableByOrder", fn := fun _ => fun
  | [d1, d2] => { results := [.lit (.bool false)], args := [d1, d2] }
  | _ => none }
def FnSortStableByOrderWrongFalsely : Prop := fnSortStableByOrderRow.holds Try.pinned (OpenSpec.ofChange fnSortStableByOrderWrong)

/-- 'laws.FnSortStableKeepsEqual': WHATEVER THE INPUT: true; the input reads as it did. -/
def fnSortStableKeepsEqualSpec : ChangeSpec := { name := "fnSortStableKeepsEqual", fn := fun _ => fun
  | [d] => { results := [.lit (.bool true)], args := [d] }
  | _ => none }
def fnSortStableKeepsEqualRow : OpenClaim := { program := "ytkblfcdofgahhaa", sum := "b63a5eb1908ff7eeab0c3f1aef84045e9c42160430f8e3895fb2f14920b2223f", func := "loop.example/lib-g01184/laws.FnSortStableKeepsEqual", spec := "fnSortStableKeepsEqual", unfollowed := true, recurses := true, apart := false }
def FnSortStableKeepsEqualSaid : Prop := fnSortStableKeepsEqualRow.holds Try.pinned (OpenSpec.ofChange fnSortStableKeepsEqualSpec)

/-- ITS FALSE NEIGHBOUR: 'it returns false'. Refute it at one input. -/
def fnSortStableKeepsEqualWrong : ChangeSpec := { name := "fnSortStableKeepsEqual", fn := fun _ => fun
  | [d] => { results := [.lit (.bool false)], args := [d] }
  | _ => none }
def FnSortStableKeepsEqualWrongFalsely : Prop := fnSortStableKeepsEqualRow.holds Try.pinned (OpenSpec.ofChange fnSortStableKeepsEqualWrong)

/-- 'laws.FnSortStableOfSorted': WHATEVER THE INPUT: true; the input reads as it did. -/
def fnSortStableOfSortedSpec : ChangeSpec := { name := "fnSortStableOfSorted", fn := fun _ => fun
  | [d] => { results := [.lit (.bool true)], args := [d] }
  | _ => none }
def fnSortStableOfSortedRow : OpenClaim := { program := "ytkblfcdofgahhaa", sum := "b63a5eb1908ff7eeab0c3f1aef84045e9c42160430f8e3895fb2f14920b2223f", func := "loop.example/lib-g01184/laws.FnSortStableOfSorted", spec := "fnSortStableOfSorted", unfollowed := true, recurses := true, apart := false }
def FnSortStableOfSortedSaid : Prop := fnSortStableOfSortedRow.holds Try.pinned (OpenSpec.ofChange fnSortStableOfSortedSpec)

/-- ITS FALSE NEIGHBOUR: 'it returns false'. Refute it at one input. -/
def fnSortStableOfSortedWrong : ChangeSpec := { name := "fnSortStableOfSorted", fn := fun _ => fun
  | [d] => { results := [.lit (.bool false)], args := [d] }
  | _ => none }
def FnSortStableOfSortedWrongFalsely : Prop := fnSortStableOfSortedRow.holds Try.pinned (OpenSpec.ofChange fnSortStableOfSortedWrong)

/-- 'laws.FnStableCalls': WHATEVER THE INPUT: true; the input reads as it did. -/
def fnStableCallsSpec : ChangeSpec := { name := "fnStableCalls", fn := fun _ => fun
  | [d1, d2] => { results := [.lit (.bool true)], args := [d1, d2] }
  | _ => none }
def fnStableCallsRow : OpenClaim := { program := "ytkblfcdofgahhaa", sum := "b63a5eb1908ff7eeab0c3f1aef84045e9c42160430f8e3895fb2f14920b2223f", func := "loop.example/lib-g01184/laws.FnStableCalls", spec := "fnStableCalls", unfollowed := true, recurses := true, apart := false }
def FnStableCallsSaid : Prop := fnStableCallsRow.holds Try.pinned (OpenSpec.ofChange fnStableCallsSpec)

/-- ITS FALSE NEIGHBOUR: 'it returns false'. Refute it at one input. -/
def fnStableCallsWrong : ChangeSpec := { name := "fnStableCalls", fn := fun _ => fun
  | [d1, d2] => { results := [.lit (.bool false)], args := [d1, d2] }
  | _ => none }
def FnStableCallsWrongFalsely : Prop := fnStableCallsRow.holds Try.pinned (OpenSpec.ofChange fnStableCallsWrong)

/-- 'laws.FnStableBySwaps': WHATEVER THE INPUT: true; the input reads as it did. -/
def fnStableBySwapsSpec : ChangeSpec := { name := "fnStableBySwaps", fn := fun _ => fun
  | [d1, d2] => { results := [.lit (.bool true)], args := [d1, d2] }
  | _ => none }
def fnStableBySwapsRow : OpenClaim := { program := "ytkblfcdofgahhaa", sum := "b63a5eb1908ff7eeab0c3f1aef84045e9c42160430f8e3895fb2f14920b2223f", func := "loop.example/lib-g01184/laws.FnStableBySwaps", spec := "fnStableBySwaps", unfollowed := true, recurses := true, apart := false }
def FnStableBySwapsSaid : Prop := fnStableBySwapsRow.holds Try.pinned (OpenSpec.ofChange fnStableBySwapsSpec)

/-- ITS FALSE NEIGHBOUR: 'it returns false'. Refute it at one input. -/
def fnStableBySwapsWrong : ChangeSpec := { name := "fnStableBySwaps", fn := fun _ => fun
  | [d1, d2] => { results := [.lit (.bool false)], args := [d1, d2] }
  | _ => none }
def FnStableBySwapsWrongFalsely : Prop := fnStableBySwapsRow.holds Try.pinned (OpenSpec.ofChange fnStableBySwapsWrong)

/-- 'laws.FnExactSliceStableItems': WHATEVER THE INPUT: true; the input reads as it did. -/
def fnExactSliceStableItemsSpec : ChangeSpec := { name := "fnExactSliceStableItems", fn := fun _ => fun
  | [d] => { results := [.lit (.bool true)], args := [d] }
  | _ => none }
def fnExactSliceStableItemsRow : OpenClaim := { program := "ytkblfcdofgahhaa", sum := "b63a5eb1908ff7eeab0c3f1aef84045e9c42160430f8e3895fb2f14920b2223f", func := "loop.example/lib-g01184/laws.FnExactSliceStableItems", spec := "fnExactSliceStableItems", inPlace := ["internal/reflectlite.ValueOf", "internal/reflectlite.Swapper", "(internal/reflectlite.Value).Len"], unfollowed := true, recurses := true, apart := false }
def FnExactSliceStableItemsSaid : Prop := fnExactSliceStableItemsRow.holds Try.pinned (OpenSpec.ofChange fnExactSliceStableItemsSpec)

/-- ITS FALSE NEIGHBOUR: 'it returns false'. Refute it at one input. -/
def fnExactSliceStableItemsWrong : ChangeSpec := { name := "fnExactSliceStableItems", fn := fun _ => fun
  | [d] => { results := [.lit (.bool false)], args := [d] }
  | _ => none }
def FnExactSliceStableItemsWrongFalsely : Prop := fnExactSliceStableItemsRow.holds Try.pinned (OpenSpec.ofChange fnExactSliceStableItemsWrong)

/-- 'laws.FnSliceStableKeepsEqual': WHATEVER THE INPUT: true; the input reads as it did. -/
def fnSliceStableKeepsEqualSpec : ChangeSpec := { name := "fnSliceStableKeepsEqual", fn := fun _ => fun
  | [d] => { results := [.lit (.bool true)], args := [d] }
  | _ => none }
def fnSliceStableKeepsEqualRow : OpenClaim := { program := "ytkblfcdofgahhaa", sum := "b63a5eb1908ff7eeab0c3f1aef84045e9c42160430f8e3895fb2f14920b2223f", func := "loop.example/lib-g01184/laws.FnSliceStableKeepsEqual", spec := "fnSliceStableKeepsEqual", inPlace := ["internal/reflectlite.ValueOf", "internal/reflectlite.Swapper", "(internal/reflectlite.Value).Len"], unfollowed := true, recurses := true, apart := false }
def FnSliceStableKeepsEqualSaid : Prop := fnSliceStableKeepsEqualRow.holds Try.pinned (OpenSpec.ofChange fnSliceStableKeepsEqualSpec)

/-- ITS FALSE NEIGHBOUR: 'it returns false'. Refute it at one input. -/
def fnSliceStableKeepsEqualWrong : ChangeSpec := { name := "fnSliceStableKeepsEqual", fn := fun _ => fun
  | [d] => { results := [.lit (.bool false)], args := [d] }
  | _ => none }
def FnSliceStableKeepsEqualWrongFalsely : Prop := fnSliceStableKeepsEqualRow.holds Try.pinned (OpenSpec.ofChange fnSliceStableKeepsEqualWrong)

/-- 'laws.FnNoRelationStays': WHATEVER THE INPUT: true; the input reads as it did. -/
def fnNoRelationStaysSpec : ChangeSpec := { name := "fnNoRelationStays", fn := fun _ => fun
  | [d] => { results := [.lit (.bool true)], args := [d] }
  | _ => none }
def fnNoRelationStaysRow : OpenClaim := { program := "ytkblfcdofgahhaa", sum := "b63a5eb1908ff7eeab0c3f1aef84045e9c42160430f8e3895fb2f14920b2223f", func := "loop.example/lib-g01184/laws.FnNoRelationStays", spec := "fnNoRelationStays", unfollowed := true, recurses := true, apart := false }
def FnNoRelationStaysSaid : Prop := fnNoRelationStaysRow.holds Try.pinned (OpenSpec.ofChange fnNoRelationStaysSpec)

/-- ITS FALSE NEIGHBOUR: 'it returns false'. Refute it at one input. -/
def fnNoRelationStaysWrong : ChangeSpec := { name := "fnNoRelationStays", fn := fun _ => fun
  | [d] => { results := [.lit (.bool false)], args := [d] }
  | _ => none }
def FnNoRelationStaysWrongFalsely : Prop := fnNoRelationStaysRow.holds Try.pinned (OpenSpec.ofChange fnNoRelationStaysWrong)

/-- 'laws.FnStableOrdersAgree': WHATEVER THE INPUT: true; the input reads as it did. -/
def fnStableOrdersAgreeSpec : ChangeSpec := { name := "fnStableOrdersAgree", fn := fun _ => fun
  | [d1, d2] => { results := [.lit (.bool true)], args := [d1, d2] }
  | _ => none }
def fnStableOrdersAgreeRow : OpenClaim := { program := "ytkblfcdofgahhaa", sum := "b63a5eb1908ff7eeab0c3f1aef84045e9c42160430f8e3895fb2f14920b2223f", func := "loop.example/lib-g01184/laws.FnStableOrdersAgree", spec := "fnStableOrdersAgree", unfollowed := true, recurses := true, apart := false }
def FnStableOrdersAgreeSaid : Prop := fnStableOrdersAgreeRow.holds Try.pinned (OpenSpec.ofChange fnStableOrdersAgreeSpec)

/-- ITS FALSE NEIGHBOUR: 'it returns false'. Refute it at one input. -/
def fnStableOrdersAgreeWrong : ChangeSpec := { name := "fnStableOrdersAgree", fn := fun _ => fun
  | [d1, d2] => { results := [.lit (.bool false)], args := [d1, d2] }
  | _ => none }
def FnStableOrdersAgreeWrongFalsely : Prop := fnStableOrdersAgreeRow.holds Try.pinned (OpenSpec.ofChange fnStableOrdersAgreeWrong)

/-- 'laws.FnStableSortsAgree': WHATEVER THE INPUT: true; the input reads as it did. -/
def fnStableSortsAgreeSpec : ChangeSpec := { name := "fnStableSortsAgree", fn := fun _ => fun
  | [d] => { results := [.lit (.bool true)], args := [d] }
  | _ => none }
def fnStableSortsAgreeRow : OpenClaim := { program := "ytkblfcdofgahhaa", sum := "b63a5eb1908ff7eeab0c3f1aef84045e9c42160430f8e3895fb2f14920b2223f", func := "loop.example/lib-g01184/laws.FnStableSortsAgree", spec := "fnStableSortsAgree", inPlace := ["internal/reflectlite.ValueOf", "internal/reflectlite.Swapper", "(internal/reflectlite.Value).Len"], unfollowed := true, recurses := true, apart := false }
def FnStableSortsAgreeSaid : Prop := fnStableSortsAgreeRow.holds Try.pinned (OpenSpec.ofChange fnStableSortsAgreeSpec)

/-- ITS FALSE NEIGHBOUR: 'it returns false'. Refute it at one input. -/
def fnStableSortsAgreeWrong : ChangeSpec := { name := "fnStableSortsAgree", fn := fun _ => fun
  | [d] => { results := [.lit (.bool false)], args := [d] }
  | _ => none }
def FnStableSortsAgreeWrongFalsely : Prop := fnStableSortsAgreeRow.holds Try.pinned (OpenSpec.ofChange fnStableSortsAgreeWrong)

/- THE SECOND FORM. 'bulk': how many values and letters a reading holds, each counted each time it is reached (what is shared counts as often as it is met; a slice's spare places count too). A statement '..UptoSaid' is the law's where the arguments, and the package variables that the reading takes, are together of bulk at most 1048576: NARROWER than '..Said'. Prove '..Said' where nothing that the law and all that it calls make is longer than what came in: it says more and counts as full. Else prove '..UptoSaid'. A law counts once. -/
mutual
def uptoBulk {H : Type} : DataW H → Nat
  | .lit (.string bytes) => bytes.length + 1
  | .lit _ => 1
  | .nil => 1
  | .ptr d => uptoBulk d + 1
  | .slice elems spare => uptoBulkAll elems + uptoBulkAll spare + 1
  | .agg parts => uptoBulkAll parts + 1
  | .iface _ d => uptoBulk d + 1
  | .map entries => uptoBulkEntries entries + 1
  | .held _ => 1
def uptoBulkAll {H : Type} : List (DataW H) → Nat
  | [] => 0
  | d :: r => uptoBulk d + uptoBulkAll r
def uptoBulkEntries {H : Type} : List (Lit × DataW H) → Nat
  | [] => 0
  | x :: r => uptoBulkEntry x + uptoBulkEntries r
def uptoBulkEntry {H : Type} : Lit × DataW H → Nat
  | (.string bytes, d) => bytes.length + uptoBulk d + 1
  | (_, d) => uptoBulk d + 1
 end
def uptoSmall : (H : Type) → List (DataW H) → Bool := fun _ ds => decide (uptoBulkAll ds ≤ 1048576)
def OpenSpec.upto (s : _root_.Go.ChangeSpec) : _root_.Go.OpenSpec := { _root_.Go.OpenSpec.ofChange s with cond := some uptoSmall }

/-- 'laws.FnExactSortStableItems', WHERE WHAT IT READS IS OF BULK AT MOST 1048576: true; the input reads as it did. -/
def fnExactSortStableItemsUptoRow : OpenClaim := { program := "ytkblfcdofgahhaa", sum := "b63a5eb1908ff7eeab0c3f1aef84045e9c42160430f8e3895fb2f14920b2223f", func := "loop.example/lib-g01184/laws.FnExactSortStableItems", spec := "fnExactSortStableItems", unfollowed := true, recurses := true, apart := false, narrowed := true }
def FnExactSortStableItemsUptoSaid : Prop := fnExactSortStableItemsUptoRow.holds Try.pinned (OpenSpec.upto fnExactSortStableItemsSpec)

/-- 'laws.FnSortStableByAnyRelation', WHERE WHAT IT READS IS OF BULK AT MOST 1048576: true; the input reads as it did. -/
def fnSortStableByAnyRelationUptoRow : OpenClaim := { program := "ytkblfcdofgahhaa", sum := "b63a5eb1908ff7eeab0c3f1aef84045e9c42160430f8e3895fb2f14920b2223f", func := "loop.example/lib-g01184/laws.FnSortStableByAnyRelation", spec := "fnSortStableByAnyRelation", unfollowed := true, recurses := true, apart := false, narrowed := true }
def FnSortStableByAnyRelationUptoSaid : Prop := fnSortStableByAnyRelationUptoRow.holds Try.pinned (OpenSpec.upto fnSortStableByAnyRelationSpec)

/-- 'laws.FnSortStableByOrder', WHERE WHAT IT READS IS OF BULK AT MOST 1048576: true; the input reads as it did. -/
def fnSortStableByOrderUptoRow : OpenClaim := { program := "ytkblfcdofgahhaa", sum := "b63a5eb1908ff7eeab0c3f1aef84045e9c42160430f8e3895fb2f14920b2223f", func := "loop.example/lib-g01184/laws.FnSortStableByOrder", spec := "fnSortStableByOrder", unfollowed := true, recurses := true, apart := false, narrowed := true }
def FnSortStableByOrderUptoSaid : Prop := fnSortStableByOrderUptoRow.holds Try.pinned (OpenSpec.upto fnSortStableByOrderSpec)

/-- 'laws.FnSortStableKeepsEqual', WHERE WHAT IT READS IS OF BULK AT MOST 1048576: true; the input reads as it did. -/
def fnSortStableKeepsEqualUptoRow : OpenClaim := { program := "ytkblfcdofgahhaa", sum := "b63a5eb1908ff7eeab0c3f1aef84045e9c42160430f8e3895fb2f14920b2223f", func := "loop.example/lib-g01184/laws.FnSortStableKeepsEqual", spec := "fnSortStableKeepsEqual", unfollowed := true, recurses := true, apart := false, narrowed := true }
def FnSortStableKeepsEqualUptoSaid : Prop := fnSortStableKeepsEqualUptoRow.holds Try.pinned (OpenSpec.upto fnSortStableKeepsEqualSpec)

/-- 'laws.FnSortStableOfSorted', WHERE WHAT IT READS IS OF BULK AT MOST 1048576: true; the input reads as it did. -/
def fnSortStableOfSortedUptoRow : OpenClaim := { program := "ytkblfcdofgahhaa", sum := "b63a5eb1908ff7eeab0c3f1aef84045e9c42160430f8e3895fb2f14920b2223f", func := "loop.example/lib-g01184/laws.FnSortStableOfSorted", spec := "fnSortStableOfSorted", unfollowed := true, recurses := true, apart := false, narrowed := true }
def FnSortStableOfSortedUptoSaid : Prop := fnSortStableOfSortedUptoRow.holds Try.pinned (OpenSpec.upto fnSortStableOfSortedSpec)

/-- 'laws.FnStableCalls', WHERE WHAT IT READS IS OF BULK AT MOST 1048576: true; the input reads as it did. -/
def fnStableCallsUptoRow : OpenClaim := { program := "ytkblfcdofgahhaa", sum := "b63a5eb1908ff7eeab0c3f1aef84045e9c42160430f8e3895fb2f14920b2223f", func := "loop.example/lib-g01184/laws.FnStableCalls", spec := "fnStableCalls", unfollowed := true, recurses := true, apart := false, narrowed := true }
def FnStableCallsUptoSaid : Prop := fnStableCallsUptoRow.holds Try.pinned (OpenSpec.upto fnStableCallsSpec)

/-- 'laws.FnStableBySwaps', WHERE WHAT IT READS IS OF BULK AT MOST 1048576: true; the input reads as it did. -/
def fnStableBySwapsUptoRow : OpenClaim := { program := "ytkblfcdofgahhaa", sum := "b63a5eb1908ff7eeab0c3f1aef84045e9c42160430f8e3895fb2f14920b2223f", func := "loop.example/lib-g01184/laws.FnStableBySwaps", spec := "fnStableBySwaps", unfollowed := true, recurses := true, apart := false, narrowed := true }
def FnStableBySwapsUptoSaid : Prop := fnStableBySwapsUptoRow.holds Try.pinned (OpenSpec.upto fnStableBySwapsSpec)

/-- 'laws.FnExactSliceStableItems', WHERE WHAT IT READS IS OF BULK AT MOST 1048576: true; the input reads as it did. -/
def fnExactSliceStableItemsUptoRow : OpenClaim := { program := "ytkblfcdofgahhaa", sum := "b63a5eb1908ff7eeab0c3f1aef84045e9c42160430f8e3895fb2f14920b2223f", func := "loop.example/lib-g01184/laws.FnExactSliceStableItems", spec := "fnExactSliceStableItems", inPlace := ["internal/reflectlite.ValueOf", "internal/reflectlite.Swapper", "(internal/reflectlite.Value).Len"], unfollowed := true, recurses := true, apart := false, narrowed := true }
def FnExactSliceStableItemsUptoSaid : Prop := fnExactSliceStableItemsUptoRow.holds Try.pinned (OpenSpec.upto fnExactSliceStableItemsSpec)

/-- 'laws.FnSliceStableKeepsEqual', WHERE WHAT IT READS IS OF BULK AT MOST 1048576: true; the input reads as it did. -/
def fnSliceStableKeepsEqualUptoRow : OpenClaim := { program := "ytkblfcdofgahhaa", sum := "b63a5eb1908ff7eeab0c3f1aef84045e9c42160430f8e3895fb2f14920b2223f", func := "loop.example/lib-g01184/laws.FnSliceStableKeepsEqual", spec := "fnSliceStableKeepsEqual", inPlace := ["internal/reflectlite.ValueOf", "internal/reflectlite.Swapper", "(internal/reflectlite.Value).Len"], unfollowed := true, recurses := true, apart := false, narrowed := true }
def FnSliceStableKeepsEqualUptoSaid : Prop := fnSliceStableKeepsEqualUptoRow.holds Try.pinned (OpenSpec.upto fnSliceStableKeepsEqualSpec)

/-- 'laws.FnNoRelationStays', WHERE WHAT IT READS IS OF BULK AT MOST 1048576: true; the input reads as it did. -/
def fnNoRelationStaysUptoRow : OpenClaim := { program := "ytkblfcdofgahhaa", sum := "b63a5eb1908ff7eeab0c3f1aef84045e9c42160430f8e3895fb2f14920b2223f", func := "loop.example/lib-g01184/laws.FnNoRelationStays", spec := "fnNoRelationStays", unfollowed := true, recurses := true, apart := false, narrowed := true }
def FnNoRelationStaysUptoSaid : Prop := fnNoRelationStaysUptoRow.holds Try.pinned (OpenSpec.upto fnNoRelationStaysSpec)

/-- 'laws.FnStableOrdersAgree', WHERE WHAT IT READS IS OF BULK AT MOST 1048576: true; the input reads as it did. -/
def fnStableOrdersAgreeUptoRow : OpenClaim := { program := "ytkblfcdofgahhaa", sum := "b63a5eb1908ff7eeab0c3f1aef84045e9c42160430f8e3895fb2f14920b2223f", func := "loop.example/lib-g01184/laws.FnStableOrdersAgree", spec := "fnStableOrdersAgree", unfollowed := true, recurses := true, apart := false, narrowed := true }
def FnStableOrdersAgreeUptoSaid : Prop := fnStableOrdersAgreeUptoRow.holds Try.pinned (OpenSpec.upto fnStableOrdersAgreeSpec)

/-- 'laws.FnStableSortsAgree', WHERE WHAT IT READS IS OF BULK AT MOST 1048576: true; the input reads as it did. -/
def fnStableSortsAgreeUptoRow : OpenClaim := { program := "ytkblfcdofgahhaa", sum := "b63a5eb1908ff7eeab0c3f1aef84045e9c42160430f8e3895fb2f14920b2223f", func := "loop.example/lib-g01184/laws.FnStableSortsAgree", spec := "fnStableSortsAgree", inPlace := ["internal/reflectlite.ValueOf", "internal/reflectlite.Swapper", "(internal/reflectlite.Value).Len"], unfollowed := true, recurses := true, apart := false, narrowed := true }
def FnStableSortsAgreeUptoSaid : Prop := fnStableSortsAgreeUptoRow.holds Try.pinned (OpenSpec.upto fnStableSortsAgreeSpec)

end Rows
end Go.Proofs.Ytkblfcdofgahhaa
