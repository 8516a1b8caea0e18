/-
  No cell of these rows narrows 'for every input' (looked for: loops, veiled, ifaces, maps, wideKeys, modest, calm, conditions, laid).
  DERIVED. THE GIVEN ROWS OF THIS SEAT. 11 by the template 'for every input the law returns true; each argument reads behind the call as it read before'; 0 by the template 'total and deterministic' (their statements: YtahghidbadpkeaaTotals.lean).
  GIVEN WITH THE SEED: the statements are not yours to turn. If you find one false, say at which input.
  Laid BY PROGRAM, IN A SANDBOX (cutbox-rows.mjs): the forced cells as the released guide's own fill.sh prints them over the translation 7ac6b9d834354d3e… (all of the seat's roots in one cut). By AI agents, Wed Nov 11 2026. No macro, syntax, notation, axiom, sorry.
-/
import Derived.Test.YtahghidbadpkeaaChecked
import GoSem.Claim
import GoSem.ClaimJoined
import GoSem.ClaimMapViews
import Derived.JoinedTies
import Derived.KernelRfl
namespace Go.Proofs.Ytahghidbadpkeaa
/- THE CELL 'sum', in the pinned program and in every row, IS THE sha256 OF THE DUMP (.gsa) THAT YtahghidbadpkeaaProg.lean LOADS. Nothing in Lean hashes anything: it is a label: what it is worth is what the hold of that sum in a sandbox is worth. -/
noncomputable def Try.pinned : Pinned := { name := "ytahghidbadpkeaa", sum := "7ac6b9d834354d3ef4a878b97d13953deb8b82e88f61f63ee6dc83cc996b1a13", checked := Try.checked }
namespace Rows
def none {H : Type} : Left H := { results := [], args := [] }

/-- 'laws.FnInserted': WHATEVER THE INPUT: true; the input reads as it did. -/
def fnInsertedSpec : ChangeSpec := { name := "fnInserted", fn := fun _ => fun
  | [d] => { results := [.lit (.bool true)], args := [d] }
  | _ => none }
def fnInsertedRow : OpenClaim := { program := "ytahghidbadpkeaa", sum := "7ac6b9d834354d3ef4a878b97d13953deb8b82e88f61f63ee6dc83cc996b1a13", func := "loop.example/pub-g01488/laws.FnInserted", spec := "fnInserted", recurses := true, apart := false }
def FnInsertedSaid : Prop := fnInsertedRow.holds Try.pinned (OpenSpec.ofChange fnInsertedSpec)

/-- ITS FALSE NEIGHBOUR: 'it returns false'. Refute it at one input. -/
def fnInsertedWrong : ChangeSpec := { name := "fnInserted", fn := fun _ => fun
  | [d] => { results := [.lit (.bool false)], args := [d] }
  | _ => none }
def FnInsertedWrongFalsely : Prop := fnInsertedRow.holds Try.pinned (OpenSpec.ofChange fnInsertedWrong)

/-- 'laws.FnRow': WHATEVER THE INPUT: true; the input reads as it did. -/
def fnRowSpec : ChangeSpec := { name := "fnRow", fn := fun _ => fun
  | [d1, d2] => { results := [.lit (.bool true)], args := [d1, d2] }
  | _ => none }
def fnRowRow : OpenClaim := { program := "ytahghidbadpkeaa", sum := "7ac6b9d834354d3ef4a878b97d13953deb8b82e88f61f63ee6dc83cc996b1a13", func := "loop.example/pub-g01488/laws.FnRow", spec := "fnRow", recurses := true, apart := false }
def FnRowSaid : Prop := fnRowRow.holds Try.pinned (OpenSpec.ofChange fnRowSpec)

/-- ITS FALSE NEIGHBOUR: 'it returns false'. Refute it at one input. -/
def fnRowWrong : ChangeSpec := { name := "fnRow", fn := fun _ => fun
  | [d1, d2] => { results := [.lit (.bool false)], args := [d1, d2] }
  | _ => none }
def FnRowWrongFalsely : Prop := fnRowRow.holds Try.pinned (OpenSpec.ofChange fnRowWrong)

/-- 'laws.FnDeleted': WHATEVER THE INPUT: true; the input reads as it did. -/
def fnDeletedSpec : ChangeSpec := { name := "fnDeleted", fn := fun _ => fun
  | [d1, d2, d3] => { results := [.lit (.bool true)], args := [d1, d2, d3] }
  | _ => none }
def fnDeletedRow : OpenClaim := { program := "ytahghidbadpkeaa", sum := "7ac6b9d834354d3ef4a878b97d13953deb8b82e88f61f63ee6dc83cc996b1a13", func := "loop.example/pub-g01488/laws.FnDeleted", spec := "fnDeleted", recurses := true, apart := false }
def FnDeletedSaid : Prop := fnDeletedRow.holds Try.pinned (OpenSpec.ofChange fnDeletedSpec)

/-- ITS FALSE NEIGHBOUR: 'it returns false'. Refute it at one input. -/
def fnDeletedWrong : ChangeSpec := { name := "fnDeleted", fn := fun _ => fun
  | [d1, d2, d3] => { results := [.lit (.bool false)], args := [d1, d2, d3] }
  | _ => none }
def FnDeletedWrongFalsely : Prop := fnDeletedRow.holds Try.pinned (OpenSpec.ofChange fnDeletedWrong)

/-- 'laws.FnDifferenceBalanced': WHATEVER THE INPUT: true; the input reads as it did. -/
def fnDifferenceBalancedSpec : ChangeSpec := { name := "fnDifferenceBalanced", fn := fun _ => fun
  | [d1, d2, d3] => { results := [.lit (.bool true)], args := [d1, d2, d3] }
  | _ => none }
def fnDifferenceBalancedRow : OpenClaim := { program := "ytahghidbadpkeaa", sum := "7ac6b9d834354d3ef4a878b97d13953deb8b82e88f61f63ee6dc83cc996b1a13", func := "loop.example/pub-g01488/laws.FnDifferenceBalanced", spec := "fnDifferenceBalanced", unfollowed := true, recurses := true, apart := false }
def FnDifferenceBalancedSaid : Prop := fnDifferenceBalancedRow.holds Try.pinned (OpenSpec.ofChange fnDifferenceBalancedSpec)

/-- ITS FALSE NEIGHBOUR: 'it returns false'. Refute it at one input. -/
def fnDifferenceBalancedWrong : ChangeSpec := { name := "fnDifferenceBalanced", fn := fun _ => fun
  | [d1, d2, d3] => { results := [.lit (.bool false)], args := [d1, d2, d3] }
  | _ => none }
def FnDifferenceBalancedWrongFalsely : Prop := fnDifferenceBalancedRow.holds Try.pinned (OpenSpec.ofChange fnDifferenceBalancedWrong)

/-- 'laws.FnIntersectionBalanced': WHATEVER THE INPUT: true; the input reads as it did. -/
def fnIntersectionBalancedSpec : ChangeSpec := { name := "fnIntersectionBalanced", fn := fun _ => fun
  | [d1, d2, d3] => { results := [.lit (.bool true)], args := [d1, d2, d3] }
  | _ => none }
def fnIntersectionBalancedRow : OpenClaim := { program := "ytahghidbadpkeaa", sum := "7ac6b9d834354d3ef4a878b97d13953deb8b82e88f61f63ee6dc83cc996b1a13", func := "loop.example/pub-g01488/laws.FnIntersectionBalanced", spec := "fnIntersectionBalanced", unfollowed := true, recurses := true, apart := false }
def FnIntersectionBalancedSaid : Prop := fnIntersectionBalancedRow.holds Try.pinned (OpenSpec.ofChange fnIntersectionBalancedSpec)

/-- ITS FALSE NEIGHBOUR: 'it returns false'. Refute it at one input. -/
def fnIntersectionBalancedWrong : ChangeSpec := { name := "fnIntersectionBalanced", fn := fun _ => fun
  | [d1, d2, d3] => { results := [.lit (.bool false)], args := [d1, d2, d3] }
  | _ => none }
def FnIntersectionBalancedWrongFalsely : Prop := fnIntersectionBalancedRow.holds Try.pinned (OpenSpec.ofChange fnIntersectionBalancedWrong)

/-- 'laws.FnUnionBalanced': WHATEVER THE INPUT: true; the input reads as it did. -/
def fnUnionBalancedSpec : ChangeSpec := { name := "fnUnionBalanced", fn := fun _ => fun
  | [d1, d2, d3] => { results := [.lit (.bool true)], args := [d1, d2, d3] }
  | _ => none }
def fnUnionBalancedRow : OpenClaim := { program := "ytahghidbadpkeaa", sum := "7ac6b9d834354d3ef4a878b97d13953deb8b82e88f61f63ee6dc83cc996b1a13", func := "loop.example/pub-g01488/laws.FnUnionBalanced", spec := "fnUnionBalanced", unfollowed := true, recurses := true, apart := false }
def FnUnionBalancedSaid : Prop := fnUnionBalancedRow.holds Try.pinned (OpenSpec.ofChange fnUnionBalancedSpec)

/-- ITS FALSE NEIGHBOUR: 'it returns false'. Refute it at one input. -/
def fnUnionBalancedWrong : ChangeSpec := { name := "fnUnionBalanced", fn := fun _ => fun
  | [d1, d2, d3] => { results := [.lit (.bool false)], args := [d1, d2, d3] }
  | _ => none }
def FnUnionBalancedWrongFalsely : Prop := fnUnionBalancedRow.holds Try.pinned (OpenSpec.ofChange fnUnionBalancedWrong)

/-- 'laws.FnHeightLow': WHATEVER THE INPUT: true; the input reads as it did. -/
def fnHeightLowSpec : ChangeSpec := { name := "fnHeightLow", fn := fun _ => fun
  | [d] => { results := [.lit (.bool true)], args := [d] }
  | _ => none }
def fnHeightLowRow : OpenClaim := { program := "ytahghidbadpkeaa", sum := "7ac6b9d834354d3ef4a878b97d13953deb8b82e88f61f63ee6dc83cc996b1a13", func := "loop.example/pub-g01488/laws.FnHeightLow", spec := "fnHeightLow", unfollowed := true, recurses := true, apart := false }
def FnHeightLowSaid : Prop := fnHeightLowRow.holds Try.pinned (OpenSpec.ofChange fnHeightLowSpec)

/-- ITS FALSE NEIGHBOUR: 'it returns false'. Refute it at one input. -/
def fnHeightLowWrong : ChangeSpec := { name := "fnHeightLow", fn := fun _ => fun
  | [d] => { results := [.lit (.bool false)], args := [d] }
  | _ => none }
def FnHeightLowWrongFalsely : Prop := fnHeightLowRow.holds Try.pinned (OpenSpec.ofChange fnHeightLowWrong)

/-- 'laws.FnScript': WHATEVER THE INPUT: true; the input reads as it did. -/
def fnScriptSpec : ChangeSpec := { name := "fnScript", fn := fun _ => fun
  | [d] => { results := [.lit (.bool true)], args := [d] }
  | _ => none }
def fnScriptRow : OpenClaim := { program := "ytahghidbadpkeaa", sum := "7ac6b9d834354d3ef4a878b97d13953deb8b82e88f61f63ee6dc83cc996b1a13", func := "loop.example/pub-g01488/laws.FnScript", spec := "fnScript", unfollowed := true, recurses := true, apart := false }
def FnScriptSaid : Prop := fnScriptRow.holds Try.pinned (OpenSpec.ofChange fnScriptSpec)

/-- ITS FALSE NEIGHBOUR: 'it returns false'. Refute it at one input. -/
def fnScriptWrong : ChangeSpec := { name := "fnScript", fn := fun _ => fun
  | [d] => { results := [.lit (.bool false)], args := [d] }
  | _ => none }
def FnScriptWrongFalsely : Prop := fnScriptRow.holds Try.pinned (OpenSpec.ofChange fnScriptWrong)

/-- 'laws.FnScriptBalanced': WHATEVER THE INPUT: true; the input reads as it did. -/
def fnScriptBalancedSpec : ChangeSpec := { name := "fnScriptBalanced", fn := fun _ => fun
  | [d] => { results := [.lit (.bool true)], args := [d] }
  | _ => none }
def fnScriptBalancedRow : OpenClaim := { program := "ytahghidbadpkeaa", sum := "7ac6b9d834354d3ef4a878b97d13953deb8b82e88f61f63ee6dc83cc996b1a13", func := "loop.example/pub-g01488/laws.FnScriptBalanced", spec := "fnScriptBalanced", unfollowed := true, recurses := true, apart := false }
def FnScriptBalancedSaid : Prop := fnScriptBalancedRow.holds Try.pinned (OpenSpec.ofChange fnScriptBalancedSpec)

/-- ITS FALSE NEIGHBOUR: 'it returns false'. Refute it at one input. -/
def fnScriptBalancedWrong : ChangeSpec := { name := "fnScriptBalanced", fn := fun _ => fun
  | [d] => { results := [.lit (.bool false)], args := [d] }
  | _ => none }
def FnScriptBalancedWrongFalsely : Prop := fnScriptBalancedRow.holds Try.pinned (OpenSpec.ofChange fnScriptBalancedWrong)

/-- 'laws.FnScriptKept': WHATEVER THE INPUT: true; the input reads as it did. -/
def fnScriptKeptSpec : ChangeSpec := { name := "fnScriptKept", fn := fun _ => fun
  | [d] => { results := [.lit (.bool true)], args := [d] }
  | _ => none }
def fnScriptKeptRow : OpenClaim := { program := "ytahghidbadpkeaa", sum := "7ac6b9d834354d3ef4a878b97d13953deb8b82e88f61f63ee6dc83cc996b1a13", func := "loop.example/pub-g01488/laws.FnScriptKept", spec := "fnScriptKept", unfollowed := true, recurses := true, apart := false }
def FnScriptKeptSaid : Prop := fnScriptKeptRow.holds Try.pinned (OpenSpec.ofChange fnScriptKeptSpec)

/-- ITS FALSE NEIGHBOUR: 'it returns false'. Refute it at one input. -/
def fnScriptKeptWrong : ChangeSpec := { name := "fnScriptKept", fn := fun _ => fun
  | [d] => { results := [.lit (.bool false)], args := [d] }
  | _ => none }
def FnScriptKeptWrongFalsely : Prop := fnScriptKeptRow.holds Try.pinned (OpenSpec.ofChange fnScriptKeptWrong)

/-- 'laws.FnSizes': WHATEVER THE INPUT: true; the input reads as it did. -/
def fnSizesSpec : ChangeSpec := { name := "fnSizes", fn := fun _ => fun
  | [d] => { results := [.lit (.bool true)], args := [d] }
  | _ => none }
def fnSizesRow : OpenClaim := { program := "ytahghidbadpkeaa", sum := "7ac6b9d834354d3ef4a878b97d13953deb8b82e88f61f63ee6dc83cc996b1a13", func := "loop.example/pub-g01488/laws.FnSizes", spec := "fnSizes", unfollowed := true, recurses := true, apart := false }
def FnSizesSaid : Prop := fnSizesRow.holds Try.pinned (OpenSpec.ofChange fnSizesSpec)

/-- ITS FALSE NEIGHBOUR: 'it returns false'. Refute it at one input. -/
def fnSizesWrong : ChangeSpec := { name := "fnSizes", fn := fun _ => fun
  | [d] => { results := [.lit (.bool false)], args := [d] }
  | _ => none }
def FnSizesWrongFalsely : Prop := fnSizesRow.holds Try.pinned (OpenSpec.ofChange fnSizesWrong)

/- THE SECOND FORM. 'bulk': how many values and letters a reading holds, each counted each time it is reached (what is shared counts as often as it is met; a slice's spare places count too). A statement '..UptoSaid' is the law's where the arguments, and the package variables that the reading takes, are together of bulk at most 1048576: NARROWER than '..Said'. Prove '..Said' where nothing that the law and all that it calls make is longer than what came in: it says more and counts as full. Else prove '..UptoSaid'. A law counts once. -/
mutual
def uptoBulk {H : Type} : DataW H → Nat
  | .lit (.string bytes) => bytes.length + 1
  | .lit _ => 1
  | .nil => 1
  | .ptr d => uptoBulk d + 1
  | .slice elems spare => uptoBulkAll elems + uptoBulkAll spare + 1
  | .agg parts => uptoBulkAll parts + 1
  | .iface _ d => uptoBulk d + 1
  | .map entries => uptoBulkEntries entries + 1
  | .held _ => 1
def uptoBulkAll {H : Type} : List (DataW H) → Nat
  | [] => 0
  | d :: r => uptoBulk d + uptoBulkAll r
def uptoBulkEntries {H : Type} : List (Lit × DataW H) → Nat
  | [] => 0
  | x :: r => uptoBulkEntry x + uptoBulkEntries r
def uptoBulkEntry {H : Type} : Lit × DataW H → Nat
  | (.string bytes, d) => bytes.length + uptoBulk d + 1
  | (_, d) => uptoBulk d + 1
 end
def uptoSmall : (H : Type) → List (DataW H) → Bool := fun _ ds => decide (uptoBulkAll ds ≤ 1048576)
def OpenSpec.upto (s : _root_.Go.ChangeSpec) : _root_.Go.OpenSpec := { _root_.Go.OpenSpec.ofChange s with cond := some uptoSmall }

/-- 'laws.FnInserted', WHERE WHAT IT READS IS OF BULK AT MOST 1048576: true; the input reads as it did. -/
def fnInsertedUptoRow : OpenClaim := { program := "ytahghidbadpkeaa", sum := "7ac6b9d834354d3ef4a878b97d13953deb8b82e88f61f63ee6dc83cc996b1a13", func := "loop.example/pub-g01488/laws.FnInserted", spec := "fnInserted", recurses := true, apart := false, narrowed := true }
def FnInsertedUptoSaid : Prop := fnInsertedUptoRow.holds Try.pinned (OpenSpec.upto fnInsertedSpec)

/-- 'laws.FnRow', WHERE WHAT IT READS IS OF BULK AT MOST 1048576: true; the input reads as it did. -/
def fnRowUptoRow : OpenClaim := { program := "ytahghidbadpkeaa", sum := "7ac6b9d834354d3ef4a878b97d13953deb8b82e88f61f63ee6dc83cc996b1a13", func := "loop.example/pub-g01488/laws.FnRow", spec := "fnRow", recurses := true, apart := false, narrowed := true }
def FnRowUptoSaid : Prop := fnRowUptoRow.holds Try.pinned (OpenSpec.upto fnRowSpec)

/-- 'laws.FnDeleted', WHERE WHAT IT READS IS OF BULK AT MOST 1048576: true; the input reads as it did. -/
def fnDeletedUptoRow : OpenClaim := { program := "ytahghidbadpkeaa", sum := "7ac6b9d834354d3ef4a878b97d13953deb8b82e88f61f63ee6dc83cc996b1a13", func := "loop.example/pub-g01488/laws.FnDeleted", spec := "fnDeleted", recurses := true, apart := false, narrowed := true }
def FnDeletedUptoSaid : Prop := fnDeletedUptoRow.holds Try.pinned (OpenSpec.upto fnDeletedSpec)

/-- 'laws.FnDifferenceBalanced', WHERE WHAT IT READS IS OF BULK AT MOST 1048576: true; the input reads as it did. -/
def fnDifferenceBalancedUptoRow : OpenClaim := { program := "ytahghidbadpkeaa", sum := "7ac6b9d834354d3ef4a878b97d13953deb8b82e88f61f63ee6dc83cc996b1a13", func := "loop.example/pub-g01488/laws.FnDifferenceBalanced", spec := "fnDifferenceBalanced", unfollowed := true, recurses := true, apart := false, narrowed := true }
def FnDifferenceBalancedUptoSaid : Prop := fnDifferenceBalancedUptoRow.holds Try.pinned (OpenSpec.upto fnDifferenceBalancedSpec)

/-- 'laws.FnIntersectionBalanced', WHERE WHAT IT READS IS OF BULK AT MOST 1048576: true; the input reads as it did. -/
def fnIntersectionBalancedUptoRow : OpenClaim := { program := "ytahghidbadpkeaa", sum := "7ac6b9d834354d3ef4a878b97d13953deb8b82e88f61f63ee6dc83cc996b1a13", func := "loop.example/pub-g01488/laws.FnIntersectionBalanced", spec := "fnIntersectionBalanced", unfollowed := true, recurses := true, apart := false, narrowed := true }
def FnIntersectionBalancedUptoSaid : Prop := fnIntersectionBalancedUptoRow.holds Try.pinned (OpenSpec.upto fnIntersectionBalancedSpec)

/-- 'laws.FnUnionBalanced', WHERE WHAT IT READS IS OF BULK AT MOST 1048576: true; the input reads as it did. -/
def fnUnionBalancedUptoRow : OpenClaim := { program := "ytahghidbadpkeaa", sum := "7ac6b9d834354d3ef4a878b97d13953deb8b82e88f61f63ee6dc83cc996b1a13", func := "loop.example/pub-g01488/laws.FnUnionBalanced", spec := "fnUnionBalanced", unfollowed := true, recurses := true, apart := false, narrowed := true }
def FnUnionBalancedUptoSaid : Prop := fnUnionBalancedUptoRow.holds Try.pinned (OpenSpec.upto fnUnionBalancedSpec)

/-- 'laws.FnHeightLow', WHERE WHAT IT READS IS OF BULK AT MOST 1048576: true; the input reads as it did. -/
def fnHeightLowUptoRow : OpenClaim := { program := "ytahghidbadpkeaa", sum := "7ac6b9d834354d3ef4a878b97d13953deb8b82e88f61f63ee6dc83cc996b1a13", func := "loop.example/pub-g01488/laws.FnHeightLow", spec := "fnHeightLow", unfollowed := true, recurses := true, apart := false, narrowed := true }
def FnHeightLowUptoSaid : Prop := fnHeightLowUptoRow.holds Try.pinned (OpenSpec.upto fnHeightLowSpec)

/-- 'laws.FnScript', WHERE WHAT IT READS IS OF BULK AT MOST 1048576: true; the input reads as it did. -/
def fnScriptUptoRow : OpenClaim := { program := "ytahghidbadpkeaa", sum := "7ac6b9d834354d3ef4a878b97d13953deb8b82e88f61f63ee6dc83cc996b1a13", func := "loop.example/pub-g01488/laws.FnScript", spec := "fnScript", unfollowed := true, recurses := true, apart := false, narrowed := true }
def FnScriptUptoSaid : Prop := fnScriptUptoRow.holds Try.pinned (OpenSpec.upto fnScriptSpec)

/-- 'laws.FnScriptBalanced', WHERE WHAT IT READS IS OF BULK AT MOST 1048576: true; the input reads as it did. -/
def fnScriptBalancedUptoRow : OpenClaim := { program := "ytahghidbadpkeaa", sum := "7ac6b9d834354d3ef4a878b97d13953deb8b82e88f61f63ee6dc83cc996b1a13", func := "loop.example/pub-g01488/laws.FnScriptBalanced", spec := "fnScriptBalanced", unfollowed := true, recurses := true, apart := false, narrowed := true }
def FnScriptBalancedUptoSaid : Prop := fnScriptBalancedUptoRow.holds Try.pinned (OpenSpec.upto fnScriptBalancedSpec)

/-- 'laws.FnScriptKept', WHERE WHAT IT READS IS OF BULK AT MOST 1048576: true; the input reads as it did. -/
def fnScriptKeptUptoRow : OpenClaim := { program := "ytahghidbadpkeaa", sum := "7ac6b9d834354d3ef4a878b97d13953deb8b82e88f61f63ee6dc83cc996b1a13", func := "loop.example/pub-g01488/laws.FnScriptKept", spec := "fnScriptKept", unfollowed := true, recurses := true, apart := false, narrowed := true }
def FnScriptKeptUptoSaid : Prop := fnScriptKeptUptoRow.holds Try.pinned (OpenSpec.upto fnScriptKeptSpec)

/-- 'laws.FnSizes', WHERE WHAT IT READS IS OF BULK AT MOST 1048576: true; the input reads as it did. -/
def fnSizesUptoRow : OpenClaim := { program := "ytahghidbadpkeaa", sum := "7ac6b9d834354d3ef4a878b97d13953deb8b82e88f61f63ee6dc83cc996b1a13", func := "loop.example/pub-g01488/laws.FnSizes", spec := "fnSizes", unfollowed := true, recurses := true, apart := false, narrowed := true }
def FnSizesUptoSaid : Prop := fnSizesUptoRow.holds Try.pinned (OpenSpec.upto fnSizesSpec)

end Rows
end Go.Proofs.Ytahghidbadpkeaa
