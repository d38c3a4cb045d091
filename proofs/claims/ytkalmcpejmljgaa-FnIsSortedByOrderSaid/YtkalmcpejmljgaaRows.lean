/-
  No cell of these rows narrows 'for every input' (looked for: loops, veiled, ifaces, maps, wideKeys, modest, calm, conditions, laid).
  DERIVED. THE GIVEN ROWS OF THIS SEAT. 4 by the template 'for every input the law returns true; each argument reads behind the call as it read before'; 0 by the template 'total and deterministic' (their statements: YtkalmcpejmljgaaTotals.lean).
  GIVEN WITH THE SEED: the statements are not yours to turn. If you find one false, say at which input.
  Laid BY PROGRAM, IN A SANDBOX (cutbox-rows.mjs): the forced cells as the released guide's own fill.sh prints them over the translation bd22839f8924fa68… (all of the seat's roots in one cut). By AI agents, Wed Nov 11 2026. No macro, syntax, notation, axiom, sorry.
-/
import Derived.Test.YtkalmcpejmljgaaChecked
import GoSem.Claim
import GoSem.ClaimJoined
import GoSem.ClaimMapViews
import Derived.JoinedTies
import Derived.KernelRfl
namespace Go.Proofs.Ytkalmcpejmljgaa
/- THE CELL 'sum', in the pinned program and in every row, IS THE sha256 OF THE DUMP (.gsa) THAT YtkalmcpejmljgaaProg.lean LOADS. Nothing in Lean hashes anything: it is a label: what it is worth is what the hold of that sum in a sandbox is worth. -/
noncomputable def Try.pinned : Pinned := { name := "ytkalmcpejmljgaa", sum := "bd22839f8924fa68e68ea11a3e10632bc98ba328b61dbb84e154eabb6f79fb78", checked := Try.checked }
namespace Rows
def none {H : Type} : Left H := { results := [], args := [] }

/-- 'laws.FnExactSortIsSortedInts': WHATEVER THE INPUT: true; the input reads as it did. -/
def fnExactSortIsSortedIntsSpec : ChangeSpec := { name := "fnExactSortIsSortedInts", fn := fun _ => fun
  | [d] => { results := [.lit (.bool true)], args := [d] }
  | _ => none }
def fnExactSortIsSortedIntsRow : OpenClaim := { program := "ytkalmcpejmljgaa", sum := "bd22839f8924fa68e68ea11a3e10632bc98ba328b61dbb84e154eabb6f79fb78", func := "loop.example/lib-g01184/laws.FnExactSortIsSortedInts", spec := "fnExactSortIsSortedInts", apart := false }
def FnExactSortIsSortedIntsSaid : Prop := fnExactSortIsSortedIntsRow.holds Try.pinned (OpenSpec.ofChange fnExactSortIsSortedIntsSpec)

/-- ITS FALSE NEIGHBOUR: 'it returns false'. Refute it at one input. -/
def fnExactSortIsSortedIntsWrong : ChangeSpec := { name := "fnExactSortIsSortedInts", fn := fun _ => fun
  | [d] => { results := [.lit (.bool false)], args := [d] }
  | _ => none }
def FnExactSortIsSortedIntsWrongFalsely : Prop := fnExactSortIsSortedIntsRow.holds Try.pinned (OpenSpec.ofChange fnExactSortIsSortedIntsWrong)

/-- 'laws.FnExactSortIsSortedStrings': WHATEVER THE INPUT: true; the input reads as it did. -/
def fnExactSortIsSortedStringsSpec : ChangeSpec := { name := "fnExactSortIsSortedStrings", fn := fun _ => fun
  | [d] => { results := [.lit (.bool true)], args := [d] }
  | _ => none }
def fnExactSortIsSortedStringsRow : OpenClaim := { program := "ytkalmcpejmljgaa", sum := "bd22839f8924fa68e68ea11a3e10632bc98ba328b61dbb84e154eabb6f79fb78", func := "loop.example/lib-g01184/laws.FnExactSortIsSortedStrings", spec := "fnExactSortIsSortedStrings", apart := false }
def FnExactSortIsSortedStringsSaid : Prop := fnExactSortIsSortedStringsRow.holds Try.pinned (OpenSpec.ofChange fnExactSortIsSortedStringsSpec)

/-- ITS FALSE NEIGHBOUR: 'it returns false'. Refute it at one input. -/
def fnExactSortIsSortedStringsWrong : ChangeSpec := { name := "fnExactSortIsSortedStrings", fn := fun _ => fun
  | [d] => { results := [.lit (.bool false)], args := [d] }
  | _ => none }
def FnExactSortIsSortedStringsWrongFalsely : Prop := fnExactSortIsSortedStringsRow.holds Try.pinned (OpenSpec.ofChange fnExactSortIsSortedStringsWrong)

/-- 'laws.FnExactSortIsSortedItems': WHATEVER THE INPUT: true; the input reads as it did. -/
def fnExactSortIsSortedItemsSpec : ChangeSpec := { name := "fnExactSortIsSortedItems", fn := fun _ => fun
  | [d] => { results := [.lit (.bool true)], args := [d] }
  | _ => none }
def fnExactSortIsSortedItemsRow : OpenClaim := { program := "ytkalmcpejmljgaa", sum := "bd22839f8924fa68e68ea11a3e10632bc98ba328b61dbb84e154eabb6f79fb78", func := "loop.example/lib-g01184/laws.FnExactSortIsSortedItems", spec := "fnExactSortIsSortedItems", unfollowed := true, recurses := true, apart := false }
def FnExactSortIsSortedItemsSaid : Prop := fnExactSortIsSortedItemsRow.holds Try.pinned (OpenSpec.ofChange fnExactSortIsSortedItemsSpec)

/-- ITS FALSE NEIGHBOUR: 'it returns false'. Refute it at one input. -/
def fnExactSortIsSortedItemsWrong : ChangeSpec := { name := "fnExactSortIsSortedItems", fn := fun _ => fun
  | [d] => { results := [.lit (.bool false)], args := [d] }
  | _ => none }
def FnExactSortIsSortedItemsWrongFalsely : Prop := fnExactSortIsSortedItemsRow.holds Try.pinned (OpenSpec.ofChange fnExactSortIsSortedItemsWrong)

/-- 'laws.FnIsSortedByOrder': WHATEVER THE INPUT: true; the input reads as it did. -/
def fnIsSortedByOrderSpec : ChangeSpec := { name := "fnIsSortedByOrder", fn := fun _ => fun
  | [d1, d2] => { results := [.lit (.bool true)], args := [d1, d2] }
  | _ => none }
def fnIsSortedByOrderRow : OpenClaim := { program := "ytkalmcpejmljgaa", sum := "bd22839f8924fa68e68ea11a3e10632bc98ba328b61dbb84e154eabb6f79fb78", func := "loop.example/lib-g01184/laws.FnIsSortedByOrder", spec := "fnIsSortedByOrder", unfollowed := true, recurses := true, apart := false }
def FnIsSortedByOrderSaid : Prop := fnIsSortedByOrderRow.holds Try.pinned (OpenSpec.ofChange fnIsSortedByOrderSpec)

/-- ITS FALSE NEIGHBOUR: 'it returns false'. Refute it at one input. -/
def fnIsSortedByOrderWrong : ChangeSpec := { name := "fnIsSortedByOrder", fn := fun _ => fun
  | [d1, d2] => { results := [.lit (.bool false)], args := [d1, d2] }
  | _ => none }
def FnIsSortedByOrderWrongFalsely : Prop := fnIsSortedByOrderRow.holds Try.pinned (OpenSpec.ofChange fnIsSortedByOrderWrong)

/- THE SECOND FORM. 'bulk': how many values and letters a reading holds, each counted each time it is reached (what is shared counts as often as it is met; a slice's spare places count too). A statement '..UptoSaid' is the law's where the arguments, and the package variables that the reading takes, are together of bulk at most 1048576: NARROWER than '..Said'. Prove '..Said' where nothing that the law and all that it calls make is longer than what came in: it says more and counts as full. Else prove '..UptoSaid'. A law counts once. -/
mutual
def uptoBulk {H : Type} : DataW H → Nat
  | .lit (.string bytes) => bytes.length + 1
  | .lit _ => 1
  | .nil => 1
  | .ptr d => uptoBulk d + 1
  | .slice elems spare => uptoBulkAll elems + uptoBulkAll spare + 1
  | .agg parts => uptoBulkAll parts + 1
  | .iface _ d => uptoBulk d + 1
  | .map entries => uptoBulkEntries entries + 1
  | .held _ => 1
def uptoBulkAll {H : Type} : List (DataW H) → Nat
  | [] => 0
  | d :: r => uptoBulk d + uptoBulkAll r
def uptoBulkEntries {H : Type} : List (Lit × DataW H) → Nat
  | [] => 0
  | x :: r => uptoBulkEntry x + uptoBulkEntries r
def uptoBulkEntry {H : Type} : Lit × DataW H → Nat
  | (.string bytes, d) => bytes.length + uptoBulk d + 1
  | (_, d) => uptoBulk d + 1
 end
def uptoSmall : (H : Type) → List (DataW H) → Bool := fun _ ds => decide (uptoBulkAll ds ≤ 1048576)
def OpenSpec.upto (s : _root_.Go.ChangeSpec) : _root_.Go.OpenSpec := { _root_.Go.OpenSpec.ofChange s with cond := some uptoSmall }

/-- 'laws.FnExactSortIsSortedInts', WHERE WHAT IT READS IS OF BULK AT MOST 1048576: true; the input reads as it did. -/
def fnExactSortIsSortedIntsUptoRow : OpenClaim := { program := "ytkalmcpejmljgaa", sum := "bd22839f8924fa68e68ea11a3e10632bc98ba328b61dbb84e154eabb6f79fb78", func := "loop.example/lib-g01184/laws.FnExactSortIsSortedInts", spec := "fnExactSortIsSortedInts", apart := false, narrowed := true }
def FnExactSortIsSortedIntsUptoSaid : Prop := fnExactSortIsSortedIntsUptoRow.holds Try.pinned (OpenSpec.upto fnExactSortIsSortedIntsSpec)

/-- 'laws.FnExactSortIsSortedStrings', WHERE WHAT IT READS IS OF BULK AT MOST 1048576: true; the input reads as it did. -/
def fnExactSortIsSortedStringsUptoRow : OpenClaim := { program := "ytkalmcpejmljgaa", sum := "bd22839f8924fa68e68ea11a3e10632bc98ba328b61dbb84e154eabb6f79fb78", func := "loop.example/lib-g01184/laws.FnExactSortIsSortedStrings", spec := "fnExactSortIsSortedStrings", apart := false, narrowed := true }
def FnExactSortIsSortedStringsUptoSaid : Prop := fnExactSortIsSortedStringsUptoRow.holds Try.pinned (OpenSpec.upto fnExactSortIsSortedStringsSpec)

/-- 'laws.FnExactSortIsSortedItems', WHERE WHAT IT READS IS OF BULK AT MOST 1048576: true; the input reads as it did. -/
def fnExactSortIsSortedItemsUptoRow : OpenClaim := { program := "ytkalmcpejmljgaa", sum := "bd22839f8924fa68e68ea11a3e10632bc98ba328b61dbb84e154eabb6f79fb78", func := "loop.example/lib-g01184/laws.FnExactSortIsSortedItems", spec := "fnExactSortIsSortedItems", unfollowed := true, recurses := true, apart := false, narrowed := true }
def FnExactSortIsSortedItemsUptoSaid : Prop := fnExactSortIsSortedItemsUptoRow.holds Try.pinned (OpenSpec.upto fnExactSortIsSortedItemsSpec)

/-- 'laws.FnIsSortedByOrder', WHERE WHAT IT READS IS OF BULK AT MOST 1048576: true; the input reads as it did. -/
def fnIsSortedByOrderUptoRow : OpenClaim := { program := "ytkalmcpejmljgaa", sum := "bd22839f8924fa68e68ea11a3e10632bc98ba328b61dbb84e154eabb6f79fb78", func := "loop.example/lib-g01184/laws.FnIsSortedByOrder", spec := "fnIsSortedByOrder", unfollowed := true, recurses := true, apart := false, narrowed := true }
def FnIsSortedByOrderUptoSaid : Prop := fnIsSortedByOrderUptoRow.holds Try.pinned (OpenSpec.upto fnIsSortedByOrderSpec)

end Rows
end Go.Proofs.Ytkalmcpejmljgaa
