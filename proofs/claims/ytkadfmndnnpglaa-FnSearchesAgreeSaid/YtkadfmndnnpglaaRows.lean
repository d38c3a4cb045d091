/-
  No cell of these rows narrows 'for every input' (looked for: loops, veiled, ifaces, maps, wideKeys, modest, calm, conditions, laid).
  DERIVED. THE GIVEN ROWS OF THIS SEAT. 12 by the template 'for every input the law returns true; each argument reads behind the call as it read before'; 0 by the template 'total and deterministic' (their statements: YtkadfmndnnpglaaTotals.lean).
  GIVEN WITH THE SEED: the statements are not yours to turn. If you find one false, say at which input.
  Laid BY PROGRAM, IN A SANDBOX (cutbox-rows.mjs): the forced cells as the released guide's own fill.sh prints them over the translation b15e1a02835fab28… (all of the seat's roots in one cut). By AI agents, Wed Nov 11 2026. No macro, syntax, notation, axiom, sorry.
-/
import Derived.Test.YtkadfmndnnpglaaChecked
import GoSem.Claim
import GoSem.ClaimJoined
import GoSem.ClaimMapViews
import Derived.JoinedTies
import Derived.KernelRfl
namespace Go.Proofs.Ytkadfmndnnpglaa
/- THE CELL 'sum', in the pinned program and in every row, IS THE sha256 OF THE DUMP (.gsa) THAT YtkadfmndnnpglaaProg.lean LOADS. Nothing in Lean hashes anything: it is a label: what it is worth is what the hold of that sum in a sandbox is worth. -/
noncomputable def Try.pinned : Pinned := { name := "ytkadfmndnnpglaa", sum := "b15e1a02835fab2830377fd7246e0f0baa57d8afca88ed485e1537ac6f9d1b4a", checked := Try.checked }
namespace Rows
def none {H : Type} : Left H := { results := [], args := [] }

/-- 'laws.FnSearchFrom': WHATEVER THE INPUT: true; the input reads as it did. -/
def fnSearchFromSpec : ChangeSpec := { name := "fnSearchFrom", fn := fun _ => fun
  | [d1, d2] => { results := [.lit (.bool true)], args := [d1, d2] }
  | _ => none }
def fnSearchFromRow : OpenClaim := { program := "ytkadfmndnnpglaa", sum := "b15e1a02835fab2830377fd7246e0f0baa57d8afca88ed485e1537ac6f9d1b4a", func := "loop.example/lib-g01184/laws.FnSearchFrom", spec := "fnSearchFrom", unfollowed := true, recurses := true, apart := false }
def FnSearchFromSaid : Prop := fnSearchFromRow.holds Try.pinned (OpenSpec.ofChange fnSearchFromSpec)

/-- ITS FALSE NEIGHBOUR: 'it returns false'. Refute it at one input. -/
def fnSearchFromWrong : ChangeSpec := { name := "fnSearchFrom", fn := fun _ => fun
  | [d1, d2] => { results := [.lit (.bool false)], args := [d1, d2] }
  | _ => none }
def FnSearchFromWrongFalsely : Prop := fnSearchFromRow.holds Try.pinned (OpenSpec.ofChange fnSearchFromWrong)

/-- 'laws.FnSearchTrue': WHATEVER THE INPUT: true; the input reads as it did. -/
def fnSearchTrueSpec : ChangeSpec := { name := "fnSearchTrue", fn := fun _ => fun
  | [d] => { results := [.lit (.bool true)], args := [d] }
  | _ => none }
def fnSearchTrueRow : OpenClaim := { program := "ytkadfmndnnpglaa", sum := "b15e1a02835fab2830377fd7246e0f0baa57d8afca88ed485e1537ac6f9d1b4a", func := "loop.example/lib-g01184/laws.FnSearchTrue", spec := "fnSearchTrue", unfollowed := true, recurses := true, apart := false }
def FnSearchTrueSaid : Prop := fnSearchTrueRow.holds Try.pinned (OpenSpec.ofChange fnSearchTrueSpec)

/-- ITS FALSE NEIGHBOUR: 'it returns false'. Refute it at one input. -/
def fnSearchTrueWrong : ChangeSpec := { name := "fnSearchTrue", fn := fun _ => fun
  | [d] => { results := [.lit (.bool false)], args := [d] }
  | _ => none }
def FnSearchTrueWrongFalsely : Prop := fnSearchTrueRow.holds Try.pinned (OpenSpec.ofChange fnSearchTrueWrong)

/-- 'laws.FnSearchTrueOfAny': WHATEVER THE INPUT: true; the input reads as it did. -/
def fnSearchTrueOfAnySpec : ChangeSpec := { name := "fnSearchTrueOfAny", fn := fun _ => fun
  | [d] => { results := [.lit (.bool true)], args := [d] }
  | _ => none }
def fnSearchTrueOfAnyRow : OpenClaim := { program := "ytkadfmndnnpglaa", sum := "b15e1a02835fab2830377fd7246e0f0baa57d8afca88ed485e1537ac6f9d1b4a", func := "loop.example/lib-g01184/laws.FnSearchTrueOfAny", spec := "fnSearchTrueOfAny", unfollowed := true, recurses := true, apart := false }
def FnSearchTrueOfAnySaid : Prop := fnSearchTrueOfAnyRow.holds Try.pinned (OpenSpec.ofChange fnSearchTrueOfAnySpec)

/-- ITS FALSE NEIGHBOUR: 'it returns false'. Refute it at one input. -/
def fnSearchTrueOfAnyWrong : ChangeSpec := { name := "fnSearchTrueOfAny", fn := fun _ => fun
  | [d] => { results := [.lit (.bool false)], args := [d] }
  | _ => none }
def FnSearchTrueOfAnyWrongFalsely : Prop := fnSearchTrueOfAnyRow.holds Try.pinned (OpenSpec.ofChange fnSearchTrueOfAnyWrong)

/-- 'laws.FnFindSigns': WHATEVER THE INPUT: true; the input reads as it did. -/
def fnFindSignsSpec : ChangeSpec := { name := "fnFindSigns", fn := fun _ => fun
  | [d] => { results := [.lit (.bool true)], args := [d] }
  | _ => none }
def fnFindSignsRow : OpenClaim := { program := "ytkadfmndnnpglaa", sum := "b15e1a02835fab2830377fd7246e0f0baa57d8afca88ed485e1537ac6f9d1b4a", func := "loop.example/lib-g01184/laws.FnFindSigns", spec := "fnFindSigns", unfollowed := true, recurses := true, apart := false }
def FnFindSignsSaid : Prop := fnFindSignsRow.holds Try.pinned (OpenSpec.ofChange fnFindSignsSpec)

/-- ITS FALSE NEIGHBOUR: 'it returns false'. Refute it at one input. -/
def fnFindSignsWrong : ChangeSpec := { name := "fnFindSigns", fn := fun _ => fun
  | [d] => { results := [.lit (.bool false)], args := [d] }
  | _ => none }
def FnFindSignsWrongFalsely : Prop := fnFindSignsRow.holds Try.pinned (OpenSpec.ofChange fnFindSignsWrong)

/-- 'laws.FnSearchInts': WHATEVER THE INPUT: true; the input reads as it did. -/
def fnSearchIntsSpec : ChangeSpec := { name := "fnSearchInts", fn := fun _ => fun
  | [d1, d2] => { results := [.lit (.bool true)], args := [d1, d2] }
  | _ => none }
def fnSearchIntsRow : OpenClaim := { program := "ytkadfmndnnpglaa", sum := "b15e1a02835fab2830377fd7246e0f0baa57d8afca88ed485e1537ac6f9d1b4a", func := "loop.example/lib-g01184/laws.FnSearchInts", spec := "fnSearchInts", unfollowed := true, recurses := true, apart := false }
def FnSearchIntsSaid : Prop := fnSearchIntsRow.holds Try.pinned (OpenSpec.ofChange fnSearchIntsSpec)

/-- ITS FALSE NEIGHBOUR: 'it returns false'. Refute it at one input. -/
def fnSearchIntsWrong : ChangeSpec := { name := "fnSearchInts", fn := fun _ => fun
  | [d1, d2] => { results := [.lit (.bool false)], args := [d1, d2] }
  | _ => none }
def FnSearchIntsWrongFalsely : Prop := fnSearchIntsRow.holds Try.pinned (OpenSpec.ofChange fnSearchIntsWrong)

/-- 'laws.FnSearchStrings': WHATEVER THE INPUT: true; the input reads as it did. -/
def fnSearchStringsSpec : ChangeSpec := { name := "fnSearchStrings", fn := fun _ => fun
  | [d1, d2] => { results := [.lit (.bool true)], args := [d1, d2] }
  | _ => none }
def fnSearchStringsRow : OpenClaim := { program := "ytkadfmndnnpglaa", sum := "b15e1a02835fab2830377fd7246e0f0baa57d8afca88ed485e1537ac6f9d1b4a", func := "loop.example/lib-g01184/laws.FnSearchStrings", spec := "fnSearchStrings", unfollowed := true, recurses := true, apart := false }
def FnSearchStringsSaid : Prop := fnSearchStringsRow.holds Try.pinned (OpenSpec.ofChange fnSearchStringsSpec)

/-- ITS FALSE NEIGHBOUR: 'it returns false'. Refute it at one input. -/
def fnSearchStringsWrong : ChangeSpec := { name := "fnSearchStrings", fn := fun _ => fun
  | [d1, d2] => { results := [.lit (.bool false)], args := [d1, d2] }
  | _ => none }
def FnSearchStringsWrongFalsely : Prop := fnSearchStringsRow.holds Try.pinned (OpenSpec.ofChange fnSearchStringsWrong)

/-- 'laws.FnSearchAsked': WHATEVER THE INPUT: true; the input reads as it did. -/
def fnSearchAskedSpec : ChangeSpec := { name := "fnSearchAsked", fn := fun _ => fun
  | [d1, d2] => { results := [.lit (.bool true)], args := [d1, d2] }
  | _ => none }
def fnSearchAskedRow : OpenClaim := { program := "ytkadfmndnnpglaa", sum := "b15e1a02835fab2830377fd7246e0f0baa57d8afca88ed485e1537ac6f9d1b4a", func := "loop.example/lib-g01184/laws.FnSearchAsked", spec := "fnSearchAsked", unfollowed := true, recurses := true, apart := false }
def FnSearchAskedSaid : Prop := fnSearchAskedRow.holds Try.pinned (OpenSpec.ofChange fnSearchAskedSpec)

/-- ITS FALSE NEIGHBOUR: 'it returns false'. Refute it at one input. -/
def fnSearchAskedWrong : ChangeSpec := { name := "fnSearchAsked", fn := fun _ => fun
  | [d1, d2] => { results := [.lit (.bool false)], args := [d1, d2] }
  | _ => none }
def FnSearchAskedWrongFalsely : Prop := fnSearchAskedRow.holds Try.pinned (OpenSpec.ofChange fnSearchAskedWrong)

/-- 'laws.FnSearchAsksFew': WHATEVER THE INPUT: true; the input reads as it did. -/
def fnSearchAsksFewSpec : ChangeSpec := { name := "fnSearchAsksFew", fn := fun _ => fun
  | [d1, d2] => { results := [.lit (.bool true)], args := [d1, d2] }
  | _ => none }
def fnSearchAsksFewRow : OpenClaim := { program := "ytkadfmndnnpglaa", sum := "b15e1a02835fab2830377fd7246e0f0baa57d8afca88ed485e1537ac6f9d1b4a", func := "loop.example/lib-g01184/laws.FnSearchAsksFew", spec := "fnSearchAsksFew", unfollowed := true, recurses := true, apart := false }
def FnSearchAsksFewSaid : Prop := fnSearchAsksFewRow.holds Try.pinned (OpenSpec.ofChange fnSearchAsksFewSpec)

/-- ITS FALSE NEIGHBOUR: 'it returns false'. Refute it at one input. -/
def fnSearchAsksFewWrong : ChangeSpec := { name := "fnSearchAsksFew", fn := fun _ => fun
  | [d1, d2] => { results := [.lit (.bool false)], args := [d1, d2] }
  | _ => none }
def FnSearchAsksFewWrongFalsely : Prop := fnSearchAsksFewRow.holds Try.pinned (OpenSpec.ofChange fnSearchAsksFewWrong)

/-- 'laws.FnFindBetween': WHATEVER THE INPUT: true; the input reads as it did. -/
def fnFindBetweenSpec : ChangeSpec := { name := "fnFindBetween", fn := fun _ => fun
  | [d1, d2, d3] => { results := [.lit (.bool true)], args := [d1, d2, d3] }
  | _ => none }
def fnFindBetweenRow : OpenClaim := { program := "ytkadfmndnnpglaa", sum := "b15e1a02835fab2830377fd7246e0f0baa57d8afca88ed485e1537ac6f9d1b4a", func := "loop.example/lib-g01184/laws.FnFindBetween", spec := "fnFindBetween", unfollowed := true, recurses := true, apart := false }
def FnFindBetweenSaid : Prop := fnFindBetweenRow.holds Try.pinned (OpenSpec.ofChange fnFindBetweenSpec)

/-- ITS FALSE NEIGHBOUR: 'it returns false'. Refute it at one input. -/
def fnFindBetweenWrong : ChangeSpec := { name := "fnFindBetween", fn := fun _ => fun
  | [d1, d2, d3] => { results := [.lit (.bool false)], args := [d1, d2, d3] }
  | _ => none }
def FnFindBetweenWrongFalsely : Prop := fnFindBetweenRow.holds Try.pinned (OpenSpec.ofChange fnFindBetweenWrong)

/-- 'laws.FnFindAsked': WHATEVER THE INPUT: true; the input reads as it did. -/
def fnFindAskedSpec : ChangeSpec := { name := "fnFindAsked", fn := fun _ => fun
  | [d1, d2, d3] => { results := [.lit (.bool true)], args := [d1, d2, d3] }
  | _ => none }
def fnFindAskedRow : OpenClaim := { program := "ytkadfmndnnpglaa", sum := "b15e1a02835fab2830377fd7246e0f0baa57d8afca88ed485e1537ac6f9d1b4a", func := "loop.example/lib-g01184/laws.FnFindAsked", spec := "fnFindAsked", unfollowed := true, recurses := true, apart := false }
def FnFindAskedSaid : Prop := fnFindAskedRow.holds Try.pinned (OpenSpec.ofChange fnFindAskedSpec)

/-- ITS FALSE NEIGHBOUR: 'it returns false'. Refute it at one input. -/
def fnFindAskedWrong : ChangeSpec := { name := "fnFindAsked", fn := fun _ => fun
  | [d1, d2, d3] => { results := [.lit (.bool false)], args := [d1, d2, d3] }
  | _ => none }
def FnFindAskedWrongFalsely : Prop := fnFindAskedRow.holds Try.pinned (OpenSpec.ofChange fnFindAskedWrong)

/-- 'laws.FnSearchCounts': WHATEVER THE INPUT: true; the input reads as it did. -/
def fnSearchCountsSpec : ChangeSpec := { name := "fnSearchCounts", fn := fun _ => fun
  | [d1, d2] => { results := [.lit (.bool true)], args := [d1, d2] }
  | _ => none }
def fnSearchCountsRow : OpenClaim := { program := "ytkadfmndnnpglaa", sum := "b15e1a02835fab2830377fd7246e0f0baa57d8afca88ed485e1537ac6f9d1b4a", func := "loop.example/lib-g01184/laws.FnSearchCounts", spec := "fnSearchCounts", unfollowed := true, recurses := true, apart := false }
def FnSearchCountsSaid : Prop := fnSearchCountsRow.holds Try.pinned (OpenSpec.ofChange fnSearchCountsSpec)

/-- ITS FALSE NEIGHBOUR: 'it returns false'. Refute it at one input. -/
def fnSearchCountsWrong : ChangeSpec := { name := "fnSearchCounts", fn := fun _ => fun
  | [d1, d2] => { results := [.lit (.bool false)], args := [d1, d2] }
  | _ => none }
def FnSearchCountsWrongFalsely : Prop := fnSearchCountsRow.holds Try.pinned (OpenSpec.ofChange fnSearchCountsWrong)

/-- 'laws.FnSearchesAgree': WHATEVER THE INPUT: true; the input reads as it did. -/
def fnSearchesAgreeSpec : ChangeSpec := { name := "fnSearchesAgree", fn := fun _ => fun
  | [d1, d2] => { results := [.lit (.bool true)], args := [d1, d2] }
  | _ => none }
def fnSearchesAgreeRow : OpenClaim := { program := "ytkadfmndnnpglaa", sum := "b15e1a02835fab2830377fd7246e0f0baa57d8afca88ed485e1537ac6f9d1b4a", func := "loop.example/lib-g01184/laws.FnSearchesAgree", spec := "fnSearchesAgree", unfollowed := true, recurses := true, apart := false }
def FnSearchesAgreeSaid : Prop := fnSearchesAgreeRow.holds Try.pinned (OpenSpec.ofChange fnSearchesAgreeSpec)

/-- ITS FALSE NEIGHBOUR: 'it returns false'. Refute it at one input. -/
def fnSearchesAgreeWrong : ChangeSpec := { name := "fnSearchesAgree", fn := fun _ => fun
  | [d1, d2] => { results := [.lit (.bool false)], args := [d1, d2] }
  | _ => none }
def FnSearchesAgreeWrongFalsely : Prop := fnSearchesAgreeRow.holds Try.pinned (OpenSpec.ofChange fnSearchesAgreeWrong)

/- THE SECOND FORM. 'bulk': how many values and letters a reading holds, each counted each time it is reached (what is shared counts as often as it is met; a slice's spare places count too). A statement '..UptoSaid' is the law's where the arguments, and the package variables that the reading takes, are together of bulk at most 1048576: NARROWER than '..Said'. Prove '..Said' where nothing that the law and all that it calls make is longer than what came in: it says more and counts as full. Else prove '..UptoSaid'. A law counts once. -/
mutual
def uptoBulk {H : Type} : DataW H → Nat
  | .lit (.string bytes) => bytes.length + 1
  | .lit _ => 1
  | .nil => 1
  | .ptr d => uptoBulk d + 1
  | .slice elems spare => uptoBulkAll elems + uptoBulkAll spare + 1
  | .agg parts => uptoBulkAll parts + 1
  | .iface _ d => uptoBulk d + 1
  | .map entries => uptoBulkEntries entries + 1
  | .held _ => 1
def uptoBulkAll {H : Type} : List (DataW H) → Nat
  | [] => 0
  | d :: r => uptoBulk d + uptoBulkAll r
def uptoBulkEntries {H : Type} : List (Lit × DataW H) → Nat
  | [] => 0
  | x :: r => uptoBulkEntry x + uptoBulkEntries r
def uptoBulkEntry {H : Type} : Lit × DataW H → Nat
  | (.string bytes, d) => bytes.length + uptoBulk d + 1
  | (_, d) => uptoBulk d + 1
 end
def uptoSmall : (H : Type) → List (DataW H) → Bool := fun _ ds => decide (uptoBulkAll ds ≤ 1048576)
def OpenSpec.upto (s : _root_.Go.ChangeSpec) : _root_.Go.OpenSpec := { _root_.Go.OpenSpec.ofChange s with cond := some uptoSmall }

/-- 'laws.FnSearchFrom', WHERE WHAT IT READS IS OF BULK AT MOST 1048576: true; the input reads as it did. -/
def fnSearchFromUptoRow : OpenClaim := { program := "ytkadfmndnnpglaa", sum := "b15e1a02835fab2830377fd7246e0f0baa57d8afca88ed485e1537ac6f9d1b4a", func := "loop.example/lib-g01184/laws.FnSearchFrom", spec := "fnSearchFrom", unfollowed := true, recurses := true, apart := false, narrowed := true }
def FnSearchFromUptoSaid : Prop := fnSearchFromUptoRow.holds Try.pinned (OpenSpec.upto fnSearchFromSpec)

/-- 'laws.FnSearchTrue', WHERE WHAT IT READS IS OF BULK AT MOST 1048576: true; the input reads as it did. -/
def fnSearchTrueUptoRow : OpenClaim := { program := "ytkadfmndnnpglaa", sum := "b15e1a02835fab2830377fd7246e0f0baa57d8afca88ed485e1537ac6f9d1b4a", func := "loop.example/lib-g01184/laws.FnSearchTrue", spec := "fnSearchTrue", unfollowed := true, recurses := true, apart := false, narrowed := true }
def FnSearchTrueUptoSaid : Prop := fnSearchTrueUptoRow.holds Try.pinned (OpenSpec.upto fnSearchTrueSpec)

/-- 'laws.FnSearchTrueOfAny', WHERE WHAT IT READS IS OF BULK AT MOST 1048576: true; the input reads as it did. -/
def fnSearchTrueOfAnyUptoRow : OpenClaim := { program := "ytkadfmndnnpglaa", sum := "b15e1a02835fab2830377fd7246e0f0baa57d8afca88ed485e1537ac6f9d1b4a", func := "loop.example/lib-g01184/laws.FnSearchTrueOfAny", spec := "fnSearchTrueOfAny", unfollowed := true, recurses := true, apart := false, narrowed := true }
def FnSearchTrueOfAnyUptoSaid : Prop := fnSearchTrueOfAnyUptoRow.holds Try.pinned (OpenSpec.upto fnSearchTrueOfAnySpec)

/-- 'laws.FnFindSigns', WHERE WHAT IT READS IS OF BULK AT MOST 1048576: true; the input reads as it did. -/
def fnFindSignsUptoRow : OpenClaim := { program := "ytkadfmndnnpglaa", sum := "b15e1a02835fab2830377fd7246e0f0baa57d8afca88ed485e1537ac6f9d1b4a", func := "loop.example/lib-g01184/laws.FnFindSigns", spec := "fnFindSigns", unfollowed := true, recurses := true, apart := false, narrowed := true }
def FnFindSignsUptoSaid : Prop := fnFindSignsUptoRow.holds Try.pinned (OpenSpec.upto fnFindSignsSpec)

/-- 'laws.FnSearchInts', WHERE WHAT IT READS IS OF BULK AT MOST 1048576: true; the input reads as it did. -/
def fnSearchIntsUptoRow : OpenClaim := { program := "ytkadfmndnnpglaa", sum := "b15e1a02835fab2830377fd7246e0f0baa57d8afca88ed485e1537ac6f9d1b4a", func := "loop.example/lib-g01184/laws.FnSearchInts", spec := "fnSearchInts", unfollowed := true, recurses := true, apart := false, narrowed := true }
def FnSearchIntsUptoSaid : Prop := fnSearchIntsUptoRow.holds Try.pinned (OpenSpec.upto fnSearchIntsSpec)

/-- 'laws.FnSearchStrings', WHERE WHAT IT READS IS OF BULK AT MOST 1048576: true; the input reads as it did. -/
def fnSearchStringsUptoRow : OpenClaim := { program := "ytkadfmndnnpglaa", sum := "b15e1a02835fab2830377fd7246e0f0baa57d8afca88ed485e1537ac6f9d1b4a", func := "loop.example/lib-g01184/laws.FnSearchStrings", spec := "fnSearchStrings", unfollowed := true, recurses := true, apart := false, narrowed := true }
def FnSearchStringsUptoSaid : Prop := fnSearchStringsUptoRow.holds Try.pinned (OpenSpec.upto fnSearchStringsSpec)

/-- 'laws.FnSearchAsked', WHERE WHAT IT READS IS OF BULK AT MOST 1048576: true; the input reads as it did. -/
def fnSearchAskedUptoRow : OpenClaim := { program := "ytkadfmndnnpglaa", sum := "b15e1a02835fab2830377fd7246e0f0baa57d8afca88ed485e1537ac6f9d1b4a", func := "loop.example/lib-g01184/laws.FnSearchAsked", spec := "fnSearchAsked", unfollowed := true, recurses := true, apart := false, narrowed := true }
def FnSearchAskedUptoSaid : Prop := fnSearchAskedUptoRow.holds Try.pinned (OpenSpec.upto fnSearchAskedSpec)

/-- 'laws.FnSearchAsksFew', WHERE WHAT IT READS IS OF BULK AT MOST 1048576: true; the input reads as it did. -/
def fnSearchAsksFewUptoRow : OpenClaim := { program := "ytkadfmndnnpglaa", sum := "b15e1a02835fab2830377fd7246e0f0baa57d8afca88ed485e1537ac6f9d1b4a", func := "loop.example/lib-g01184/laws.FnSearchAsksFew", spec := "fnSearchAsksFew", unfollowed := true, recurses := true, apart := false, narrowed := true }
def FnSearchAsksFewUptoSaid : Prop := fnSearchAsksFewUptoRow.holds Try.pinned (OpenSpec.upto fnSearchAsksFewSpec)

/-- 'laws.FnFindBetween', WHERE WHAT IT READS IS OF BULK AT MOST 1048576: true; the input reads as it did. -/
def fnFindBetweenUptoRow : OpenClaim := { program := "ytkadfmndnnpglaa", sum := "b15e1a02835fab2830377fd7246e0f0baa57d8afca88ed485e1537ac6f9d1b4a", func := "loop.example/lib-g01184/laws.FnFindBetween", spec := "fnFindBetween", unfollowed := true, recurses := true, apart := false, narrowed := true }
def FnFindBetweenUptoSaid : Prop := fnFindBetweenUptoRow.holds Try.pinned (OpenSpec.upto fnFindBetweenSpec)

/-- 'laws.FnFindAsked', WHERE WHAT IT READS IS OF BULK AT MOST 1048576: true; the input reads as it did. -/
def fnFindAskedUptoRow : OpenClaim := { program := "ytkadfmndnnpglaa", sum := "b15e1a02835fab2830377fd7246e0f0baa57d8afca88ed485e1537ac6f9d1b4a", func := "loop.example/lib-g01184/laws.FnFindAsked", spec := "fnFindAsked", unfollowed := true, recurses := true, apart := false, narrowed := true }
def FnFindAskedUptoSaid : Prop := fnFindAskedUptoRow.holds Try.pinned (OpenSpec.upto fnFindAskedSpec)

/-- 'laws.FnSearchCounts', WHERE WHAT IT READS IS OF BULK AT MOST 1048576: true; the input reads as it did. -/
def fnSearchCountsUptoRow : OpenClaim := { program := "ytkadfmndnnpglaa", sum := "b15e1a02835fab2830377fd7246e0f0baa57d8afca88ed485e1537ac6f9d1b4a", func := "loop.example/lib-g01184/laws.FnSearchCounts", spec := "fnSearchCounts", unfollowed := true, recurses := true, apart := false, narrowed := true }
def FnSearchCountsUptoSaid : Prop := fnSearchCountsUptoRow.holds Try.pinned (OpenSpec.upto fnSearchCountsSpec)

/-- 'laws.FnSearchesAgree', WHERE WHAT IT READS IS OF BULK AT MOST 1048576: true; the input reads as it did. -/
def fnSearchesAgreeUptoRow : OpenClaim := { program := "ytkadfmndnnpglaa", sum := "b15e1a02835fab2830377fd7246e0f0baa57d8afca88ed485e1537ac6f9d1b4a", func := "loop.example/lib-g01184/laws.FnSearchesAgree", spec := "fnSearchesAgree", unfollowed := true, recurses := true, apart := false, narrowed := true }
def FnSearchesAgreeUptoSaid : Prop := fnSearchesAgreeUptoRow.holds Try.pinned (OpenSpec.upto fnSearchesAgreeSpec)

end Rows
end Go.Proofs.Ytkadfmndnnpglaa
