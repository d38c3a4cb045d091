/-
  No cell of these rows narrows 'for every input' (looked for: loops, veiled, ifaces, maps, wideKeys, modest, calm, conditions, laid).
  DERIVED. THE GIVEN ROWS OF THIS SEAT. 11 by the template 'for every input the law returns true; each argument reads behind the call as it read before'; 0 by the template 'total and deterministic' (their statements: YtjddpbamnjdjcaaTotals.lean).
  GIVEN WITH THE SEED: the statements are not yours to turn. If you find one false, say at which input.
  Laid BY PROGRAM, IN A SANDBOX (cutbox-rows.mjs): the forced cells as the released guide's own fill.sh prints them over the translation 68587b291e3bd105… (all of the seat's roots in one cut). By AI agents, Wed Nov 11 2026. No macro, syntax, notation, axiom, sorry.
-/
import Derived.Test.YtjddpbamnjdjcaaChecked
import GoSem.Claim
import GoSem.ClaimJoined
import GoSem.ClaimMapViews
import Derived.JoinedTies
import Derived.KernelRfl
namespace Go.Proofs.Ytjddpbamnjdjcaa
/- THE CELL 'sum', in the pinned program and in every row, IS THE sha256 OF THE DUMP (.gsa) THAT YtjddpbamnjdjcaaProg.lean LOADS. Nothing in Lean hashes anything: it is a label: what it is worth is what the hold of that sum in a sandbox is worth. -/
noncomputable def Try.pinned : Pinned := { name := "ytjddpbamnjdjcaa", sum := "68587b291e3bd105d39d58be092baac5b006eb3b598cedb27550e604f74b3079", checked := Try.checked }
namespace Rows
def none {H : Type} : Left H := { results := [], args := [] }

/-- 'laws.FnExactSortSortInts': WHATEVER THE INPUT: true; the input reads as it did. -/
def fnExactSortSortIntsSpec : ChangeSpec := { name := "fnExactSortSortInts", fn := fun _ => fun
  | [d] => { results := [.lit (.bool true)], args := [d] }
  | _ => none }
def fnExactSortSortIntsRow : OpenClaim := { program := "ytjddpbamnjdjcaa", sum := "68587b291e3bd105d39d58be092baac5b006eb3b598cedb27550e604f74b3079", func := "loop.example/lib-g01184/laws.FnExactSortSortInts", spec := "fnExactSortSortInts", recurses := true, apart := false }
def FnExactSortSortIntsSaid : Prop := fnExactSortSortIntsRow.holds Try.pinned (OpenSpec.ofChange fnExactSortSortIntsSpec)

/-- ITS FALSE NEIGHBOUR: 'it returns false'. Refute it at one input. -/
def fnExactSortSortIntsWrong : ChangeSpec := { name := "fnExactSortSortInts", fn := fun _ => fun
  | [d] => { results := [.lit (.bool false)], args := [d] }
  | _ => none }
def FnExactSortSortIntsWrongFalsely : Prop := fnExactSortSortIntsRow.holds Try.pinned (OpenSpec.ofChange fnExactSortSortIntsWrong)

/-- 'laws.FnExactSortSortStrings': WHATEVER THE INPUT: true; the input reads as it did. -/
def fnExactSortSortStringsSpec : ChangeSpec := { name := "fnExactSortSortStrings", fn := fun _ => fun
  | [d] => { results := [.lit (.bool true)], args := [d] }
  | _ => none }
def fnExactSortSortStringsRow : OpenClaim := { program := "ytjddpbamnjdjcaa", sum := "68587b291e3bd105d39d58be092baac5b006eb3b598cedb27550e604f74b3079", func := "loop.example/lib-g01184/laws.FnExactSortSortStrings", spec := "fnExactSortSortStrings", recurses := true, apart := false }
def FnExactSortSortStringsSaid : Prop := fnExactSortSortStringsRow.holds Try.pinned (OpenSpec.ofChange fnExactSortSortStringsSpec)

/-- ITS FALSE NEIGHBOUR: 'it returns false'. Refute it at one input. -/
def fnExactSortSortStringsWrong : ChangeSpec := { name := "fnExactSortSortStrings", fn := fun _ => fun
  | [d] => { results := [.lit (.bool false)], args := [d] }
  | _ => none }
def FnExactSortSortStringsWrongFalsely : Prop := fnExactSortSortStringsRow.holds Try.pinned (OpenSpec.ofChange fnExactSortSortStringsWrong)

/-- 'laws.FnSortSortAgain': WHATEVER THE INPUT: true; the input reads as it did. -/
def fnSortSortAgainSpec : ChangeSpec := { name := "fnSortSortAgain", fn := fun _ => fun
  | [d] => { results := [.lit (.bool true)], args := [d] }
  | _ => none }
def fnSortSortAgainRow : OpenClaim := { program := "ytjddpbamnjdjcaa", sum := "68587b291e3bd105d39d58be092baac5b006eb3b598cedb27550e604f74b3079", func := "loop.example/lib-g01184/laws.FnSortSortAgain", spec := "fnSortSortAgain", recurses := true, apart := false }
def FnSortSortAgainSaid : Prop := fnSortSortAgainRow.holds Try.pinned (OpenSpec.ofChange fnSortSortAgainSpec)

/-- ITS FALSE NEIGHBOUR: 'it returns false'. Refute it at one input. -/
def fnSortSortAgainWrong : ChangeSpec := { name := "fnSortSortAgain", fn := fun _ => fun
  | [d] => { results := [.lit (.bool false)], args := [d] }
  | _ => none }
def FnSortSortAgainWrongFalsely : Prop := fnSortSortAgainRow.holds Try.pinned (OpenSpec.ofChange fnSortSortAgainWrong)

/-- 'laws.FnSortSortIntsSorts': WHATEVER THE INPUT: true; the input reads as it did. -/
def fnSortSortIntsSortsSpec : ChangeSpec := { name := "fnSortSortIntsSorts", fn := fun _ => fun
  | [d] => { results := [.lit (.bool true)], args := [d] }
  | _ => none }
def fnSortSortIntsSortsRow : OpenClaim := { program := "ytjddpbamnjdjcaa", sum := "68587b291e3bd105d39d58be092baac5b006eb3b598cedb27550e604f74b3079", func := "loop.example/lib-g01184/laws.FnSortSortIntsSorts", spec := "fnSortSortIntsSorts", recurses := true, apart := false }
def FnSortSortIntsSortsSaid : Prop := fnSortSortIntsSortsRow.holds Try.pinned (OpenSpec.ofChange fnSortSortIntsSortsSpec)

/-- ITS FALSE NEIGHBOUR: 'it returns false'. Refute it at one input. -/
def fnSortSortIntsSortsWrong : ChangeSpec := { name := "fnSortSortIntsSorts", fn := fun _ => fun
  | [d] => { results := [.lit (.bool false)], args := [d] }
  | _ => none }
def FnSortSortIntsSortsWrongFalsely : Prop := fnSortSortIntsSortsRow.holds Try.pinned (OpenSpec.ofChange fnSortSortIntsSortsWrong)

/-- 'laws.FnSortSortStringsSorts': WHATEVER THE INPUT: true; the input reads as it did. -/
def fnSortSortStringsSortsSpec : ChangeSpec := { name := "fnSortSortStringsSorts", fn := fun _ => fun
  | [d] => { results := [.lit (.bool true)], args := [d] }
  | _ => none }
def fnSortSortStringsSortsRow : OpenClaim := { program := "ytjddpbamnjdjcaa", sum := "68587b291e3bd105d39d58be092baac5b006eb3b598cedb27550e604f74b3079", func := "loop.example/lib-g01184/laws.FnSortSortStringsSorts", spec := "fnSortSortStringsSorts", recurses := true, apart := false }
def FnSortSortStringsSortsSaid : Prop := fnSortSortStringsSortsRow.holds Try.pinned (OpenSpec.ofChange fnSortSortStringsSortsSpec)

/-- ITS FALSE NEIGHBOUR: 'it returns false'. Refute it at one input. -/
def fnSortSortStringsSortsWrong : ChangeSpec := { name := "fnSortSortStringsSorts", fn := fun _ => fun
  | [d] => { results := [.lit (.bool false)], args := [d] }
  | _ => none }
def FnSortSortStringsSortsWrongFalsely : Prop := fnSortSortStringsSortsRow.holds Try.pinned (OpenSpec.ofChange fnSortSortStringsSortsWrong)

/-- 'laws.FnSortsAgree': WHATEVER THE INPUT: true; the input reads as it did. -/
def fnSortsAgreeSpec : ChangeSpec := { name := "fnSortsAgree", fn := fun _ => fun
  | [d] => { results := [.lit (.bool true)], args := [d] }
  | _ => none }
def fnSortsAgreeRow : OpenClaim := { program := "ytjddpbamnjdjcaa", sum := "68587b291e3bd105d39d58be092baac5b006eb3b598cedb27550e604f74b3079", func := "loop.example/lib-g01184/laws.FnSortsAgree", spec := "fnSortsAgree", recurses := true, apart := false }
def FnSortsAgreeSaid : Prop := fnSortsAgreeRow.holds Try.pinned (OpenSpec.ofChange fnSortsAgreeSpec)

/-- ITS FALSE NEIGHBOUR: 'it returns false'. Refute it at one input. -/
def fnSortsAgreeWrong : ChangeSpec := { name := "fnSortsAgree", fn := fun _ => fun
  | [d] => { results := [.lit (.bool false)], args := [d] }
  | _ => none }
def FnSortsAgreeWrongFalsely : Prop := fnSortsAgreeRow.holds Try.pinned (OpenSpec.ofChange fnSortsAgreeWrong)

/-- 'laws.FnTextSortsAgree': WHATEVER THE INPUT: true; the input reads as it did. -/
def fnTextSortsAgreeSpec : ChangeSpec := { name := "fnTextSortsAgree", fn := fun _ => fun
  | [d] => { results := [.lit (.bool true)], args := [d] }
  | _ => none }
def fnTextSortsAgreeRow : OpenClaim := { program := "ytjddpbamnjdjcaa", sum := "68587b291e3bd105d39d58be092baac5b006eb3b598cedb27550e604f74b3079", func := "loop.example/lib-g01184/laws.FnTextSortsAgree", spec := "fnTextSortsAgree", recurses := true, apart := false }
def FnTextSortsAgreeSaid : Prop := fnTextSortsAgreeRow.holds Try.pinned (OpenSpec.ofChange fnTextSortsAgreeSpec)

/-- ITS FALSE NEIGHBOUR: 'it returns false'. Refute it at one input. -/
def fnTextSortsAgreeWrong : ChangeSpec := { name := "fnTextSortsAgree", fn := fun _ => fun
  | [d] => { results := [.lit (.bool false)], args := [d] }
  | _ => none }
def FnTextSortsAgreeWrongFalsely : Prop := fnTextSortsAgreeRow.holds Try.pinned (OpenSpec.ofChange fnTextSortsAgreeWrong)

/-- 'laws.FnSortIsSortedInts': WHATEVER THE INPUT: true; the input reads as it did. -/
def fnSortIsSortedIntsSpec : ChangeSpec := { name := "fnSortIsSortedInts", fn := fun _ => fun
  | [d] => { results := [.lit (.bool true)], args := [d] }
  | _ => none }
def fnSortIsSortedIntsRow : OpenClaim := { program := "ytjddpbamnjdjcaa", sum := "68587b291e3bd105d39d58be092baac5b006eb3b598cedb27550e604f74b3079", func := "loop.example/lib-g01184/laws.FnSortIsSortedInts", spec := "fnSortIsSortedInts", recurses := true, apart := false }
def FnSortIsSortedIntsSaid : Prop := fnSortIsSortedIntsRow.holds Try.pinned (OpenSpec.ofChange fnSortIsSortedIntsSpec)

/-- ITS FALSE NEIGHBOUR: 'it returns false'. Refute it at one input. -/
def fnSortIsSortedIntsWrong : ChangeSpec := { name := "fnSortIsSortedInts", fn := fun _ => fun
  | [d] => { results := [.lit (.bool false)], args := [d] }
  | _ => none }
def FnSortIsSortedIntsWrongFalsely : Prop := fnSortIsSortedIntsRow.holds Try.pinned (OpenSpec.ofChange fnSortIsSortedIntsWrong)

/-- 'laws.FnIsSortedStrings': WHATEVER THE INPUT: true; the input reads as it did. -/
def fnIsSortedStringsSpec : ChangeSpec := { name := "fnIsSortedStrings", fn := fun _ => fun
  | [d] => { results := [.lit (.bool true)], args := [d] }
  | _ => none }
def fnIsSortedStringsRow : OpenClaim := { program := "ytjddpbamnjdjcaa", sum := "68587b291e3bd105d39d58be092baac5b006eb3b598cedb27550e604f74b3079", func := "loop.example/lib-g01184/laws.FnIsSortedStrings", spec := "fnIsSortedStrings", recurses := true, apart := false }
def FnIsSortedStringsSaid : Prop := fnIsSortedStringsRow.holds Try.pinned (OpenSpec.ofChange fnIsSortedStringsSpec)

/-- ITS FALSE NEIGHBOUR: 'it returns false'. Refute it at one input. -/
def fnIsSortedStringsWrong : ChangeSpec := { name := "fnIsSortedStrings", fn := fun _ => fun
  | [d] => { results := [.lit (.bool false)], args := [d] }
  | _ => none }
def FnIsSortedStringsWrongFalsely : Prop := fnIsSortedStringsRow.holds Try.pinned (OpenSpec.ofChange fnIsSortedStringsWrong)

/-- 'laws.FnTextSortsKeepArgument': WHATEVER THE INPUT: true; the input reads as it did. -/
def fnTextSortsKeepArgumentSpec : ChangeSpec := { name := "fnTextSortsKeepArgument", fn := fun _ => fun
  | [d] => { results := [.lit (.bool true)], args := [d] }
  | _ => none }
def fnTextSortsKeepArgumentRow : OpenClaim := { program := "ytjddpbamnjdjcaa", sum := "68587b291e3bd105d39d58be092baac5b006eb3b598cedb27550e604f74b3079", func := "loop.example/lib-g01184/laws.FnTextSortsKeepArgument", spec := "fnTextSortsKeepArgument", recurses := true, apart := false }
def FnTextSortsKeepArgumentSaid : Prop := fnTextSortsKeepArgumentRow.holds Try.pinned (OpenSpec.ofChange fnTextSortsKeepArgumentSpec)

/-- ITS FALSE NEIGHBOUR: 'it returns false'. Refute it at one input. -/
def fnTextSortsKeepArgumentWrong : ChangeSpec := { name := "fnTextSortsKeepArgument", fn := fun _ => fun
  | [d] => { results := [.lit (.bool false)], args := [d] }
  | _ => none }
def FnTextSortsKeepArgumentWrongFalsely : Prop := fnTextSortsKeepArgumentRow.holds Try.pinned (OpenSpec.ofChange fnTextSortsKeepArgumentWrong)

/-- 'laws.FnSortsKeepArgument': WHATEVER THE INPUT: true; the input reads as it did. -/
def fnSortsKeepArgumentSpec : ChangeSpec := { name := "fnSortsKeepArgument", fn := fun _ => fun
  | [d] => { results := [.lit (.bool true)], args := [d] }
  | _ => none }
def fnSortsKeepArgumentRow : OpenClaim := { program := "ytjddpbamnjdjcaa", sum := "68587b291e3bd105d39d58be092baac5b006eb3b598cedb27550e604f74b3079", func := "loop.example/lib-g01184/laws.FnSortsKeepArgument", spec := "fnSortsKeepArgument", recurses := true, apart := false }
def FnSortsKeepArgumentSaid : Prop := fnSortsKeepArgumentRow.holds Try.pinned (OpenSpec.ofChange fnSortsKeepArgumentSpec)

/-- ITS FALSE NEIGHBOUR: 'it returns false'. Refute it at one input. -/
def fnSortsKeepArgumentWrong : ChangeSpec := { name := "fnSortsKeepArgument", fn := fun _ => fun
  | [d] => { results := [.lit (.bool false)], args := [d] }
  | _ => none }
def FnSortsKeepArgumentWrongFalsely : Prop := fnSortsKeepArgumentRow.holds Try.pinned (OpenSpec.ofChange fnSortsKeepArgumentWrong)

/- THE SECOND FORM. 'bulk': how many values and letters a reading holds, each counted each time it is reached (what is shared counts as often as it is met; a slice's spare places count too). A statement '..UptoSaid' is the law's where the arguments, and the package variables that the reading takes, are together of bulk at most 1048576: NARROWER than '..Said'. Prove '..Said' where nothing that the law and all that it calls make is longer than what came in: it says more and counts as full. Else prove '..UptoSaid'. A law counts once. -/
mutual
def uptoBulk {H : Type} : DataW H → Nat
  | .lit (.string bytes) => bytes.length + 1
  | .lit _ => 1
  | .nil => 1
  | .ptr d => uptoBulk d + 1
  | .slice elems spare => uptoBulkAll elems + uptoBulkAll spare + 1
  | .agg parts => uptoBulkAll parts + 1
  | .iface _ d => uptoBulk d + 1
  | .map entries => uptoBulkEntries entries + 1
  | .held _ => 1
def uptoBulkAll {H : Type} : List (DataW H) → Nat
  | [] => 0
  | d :: r => uptoBulk d + uptoBulkAll r
def uptoBulkEntries {H : Type} : List (Lit × DataW H) → Nat
  | [] => 0
  | x :: r => uptoBulkEntry x + uptoBulkEntries r
def uptoBulkEntry {H : Type} : Lit × DataW H → Nat
  | (.string bytes, d) => bytes.length + uptoBulk d + 1
  | (_, d) => uptoBulk d + 1
 end
def uptoSmall : (H : Type) → List (DataW H) → Bool := fun _ ds => decide (uptoBulkAll ds ≤ 1048576)
def OpenSpec.upto (s : _root_.Go.ChangeSpec) : _root_.Go.OpenSpec := { _root_.Go.OpenSpec.ofChange s with cond := some uptoSmall }

/-- 'laws.FnExactSortSortInts', WHERE WHAT IT READS IS OF BULK AT MOST 1048576: true; the input reads as it did. -/
def fnExactSortSortIntsUptoRow : OpenClaim := { program := "ytjddpbamnjdjcaa", sum := "68587b291e3bd105d39d58be092baac5b006eb3b598cedb27550e604f74b3079", func := "loop.example/lib-g01184/laws.FnExactSortSortInts", spec := "fnExactSortSortInts", recurses := true, apart := false, narrowed := true }
def FnExactSortSortIntsUptoSaid : Prop := fnExactSortSortIntsUptoRow.holds Try.pinned (OpenSpec.upto fnExactSortSortIntsSpec)

/-- 'laws.FnExactSortSortStrings', WHERE WHAT IT READS IS OF BULK AT MOST 1048576: true; the input reads as it did. -/
def fnExactSortSortStringsUptoRow : OpenClaim := { program := "ytjddpbamnjdjcaa", sum := "68587b291e3bd105d39d58be092baac5b006eb3b598cedb27550e604f74b3079", func := "loop.example/lib-g01184/laws.FnExactSortSortStrings", spec := "fnExactSortSortStrings", recurses := true, apart := false, narrowed := true }
def FnExactSortSortStringsUptoSaid : Prop := fnExactSortSortStringsUptoRow.holds Try.pinned (OpenSpec.upto fnExactSortSortStringsSpec)

/-- 'laws.FnSortSortAgain', WHERE WHAT IT READS IS OF BULK AT MOST 1048576: true; the input reads as it did. -/
def fnSortSortAgainUptoRow : OpenClaim := { program := "ytjddpbamnjdjcaa", sum := "68587b291e3bd105d39d58be092baac5b006eb3b598cedb27550e604f74b3079", func := "loop.example/lib-g01184/laws.FnSortSortAgain", spec := "fnSortSortAgain", recurses := true, apart := false, narrowed := true }
def FnSortSortAgainUptoSaid : Prop := fnSortSortAgainUptoRow.holds Try.pinned (OpenSpec.upto fnSortSortAgainSpec)

/-- 'laws.FnSortSortIntsSorts', WHERE WHAT IT READS IS OF BULK AT MOST 1048576: true; the input reads as it did. -/
def fnSortSortIntsSortsUptoRow : OpenClaim := { program := "ytjddpbamnjdjcaa", sum := "68587b291e3bd105d39d58be092baac5b006eb3b598cedb27550e604f74b3079", func := "loop.example/lib-g01184/laws.FnSortSortIntsSorts", spec := "fnSortSortIntsSorts", recurses := true, apart := false, narrowed := true }
def FnSortSortIntsSortsUptoSaid : Prop := fnSortSortIntsSortsUptoRow.holds Try.pinned (OpenSpec.upto fnSortSortIntsSortsSpec)

/-- 'laws.FnSortSortStringsSorts', WHERE WHAT IT READS IS OF BULK AT MOST 1048576: true; the input reads as it did. -/
def fnSortSortStringsSortsUptoRow : OpenClaim := { program := "ytjddpbamnjdjcaa", sum := "68587b291e3bd105d39d58be092baac5b006eb3b598cedb27550e604f74b3079", func := "loop.example/lib-g01184/laws.FnSortSortStringsSorts", spec := "fnSortSortStringsSorts", recurses := true, apart := false, narrowed := true }
def FnSortSortStringsSortsUptoSaid : Prop := fnSortSortStringsSortsUptoRow.holds Try.pinned (OpenSpec.upto fnSortSortStringsSortsSpec)

/-- 'laws.FnSortsAgree', WHERE WHAT IT READS IS OF BULK AT MOST 1048576: true; the input reads as it did. -/
def fnSortsAgreeUptoRow : OpenClaim := { program := "ytjddpbamnjdjcaa", sum := "68587b291e3bd105d39d58be092baac5b006eb3b598cedb27550e604f74b3079", func := "loop.example/lib-g01184/laws.FnSortsAgree", spec := "fnSortsAgree", recurses := true, apart := false, narrowed := true }
def FnSortsAgreeUptoSaid : Prop := fnSortsAgreeUptoRow.holds Try.pinned (OpenSpec.upto fnSortsAgreeSpec)

/-- 'laws.FnTextSortsAgree', WHERE WHAT IT READS IS OF BULK AT MOST 1048576: true; the input reads as it did. -/
def fnTextSortsAgreeUptoRow : OpenClaim := { program := "ytjddpbamnjdjcaa", sum := "68587b291e3bd105d39d58be092baac5b006eb3b598cedb27550e604f74b3079", func := "loop.example/lib-g01184/laws.FnTextSortsAgree", spec := "fnTextSortsAgree", recurses := true, apart := false, narrowed := true }
def FnTextSortsAgreeUptoSaid : Prop := fnTextSortsAgreeUptoRow.holds Try.pinned (OpenSpec.upto fnTextSortsAgreeSpec)

/-- 'laws.FnSortIsSortedInts', WHERE WHAT IT READS IS OF BULK AT MOST 1048576: true; the input reads as it did. -/
def fnSortIsSortedIntsUptoRow : OpenClaim := { program := "ytjddpbamnjdjcaa", sum := "68587b291e3bd105d39d58be092baac5b006eb3b598cedb27550e604f74b3079", func := "loop.example/lib-g01184/laws.FnSortIsSortedInts", spec := "fnSortIsSortedInts", recurses := true, apart := false, narrowed := true }
def FnSortIsSortedIntsUptoSaid : Prop := fnSortIsSortedIntsUptoRow.holds Try.pinned (OpenSpec.upto fnSortIsSortedIntsSpec)

/-- 'laws.FnIsSortedStrings', WHERE WHAT IT READS IS OF BULK AT MOST 1048576: true; the input reads as it did. -/
def fnIsSortedStringsUptoRow : OpenClaim := { program := "ytjddpbamnjdjcaa", sum := "68587b291e3bd105d39d58be092baac5b006eb3b598cedb27550e604f74b3079", func := "loop.example/lib-g01184/laws.FnIsSortedStrings", spec := "fnIsSortedStrings", recurses := true, apart := false, narrowed := true }
def FnIsSortedStringsUptoSaid : Prop := fnIsSortedStringsUptoRow.holds Try.pinned (OpenSpec.upto fnIsSortedStringsSpec)

/-- 'laws.FnTextSortsKeepArgument', WHERE WHAT IT READS IS OF BULK AT MOST 1048576: true; the input reads as it did. -/
def fnTextSortsKeepArgumentUptoRow : OpenClaim := { program := "ytjddpbamnjdjcaa", sum := "68587b291e3bd105d39d58be092baac5b006eb3b598cedb27550e604f74b3079", func := "loop.example/lib-g01184/laws.FnTextSortsKeepArgument", spec := "fnTextSortsKeepArgument", recurses := true, apart := false, narrowed := true }
def FnTextSortsKeepArgumentUptoSaid : Prop := fnTextSortsKeepArgumentUptoRow.holds Try.pinned (OpenSpec.upto fnTextSortsKeepArgumentSpec)

/-- 'laws.FnSortsKeepArgument', WHERE WHAT IT READS IS OF BULK AT MOST 1048576: true; the input reads as it did. -/
def fnSortsKeepArgumentUptoRow : OpenClaim := { program := "ytjddpbamnjdjcaa", sum := "68587b291e3bd105d39d58be092baac5b006eb3b598cedb27550e604f74b3079", func := "loop.example/lib-g01184/laws.FnSortsKeepArgument", spec := "fnSortsKeepArgument", recurses := true, apart := false, narrowed := true }
def FnSortsKeepArgumentUptoSaid : Prop := fnSortsKeepArgumentUptoRow.holds Try.pinned (OpenSpec.upto fnSortsKeepArgumentSpec)

end Rows
end Go.Proofs.Ytjddpbamnjdjcaa
