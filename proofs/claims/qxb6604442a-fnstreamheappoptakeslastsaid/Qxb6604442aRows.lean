/-
  No cell of these rows narrows 'for every input' (looked for: loops, veiled, ifaces, maps, wideKeys, modest, calm, conditions, laid).
  DERIVED. THE GIVEN ROWS OF THIS SEAT. 5 by the template 'for every input the law returns true; each argument reads behind the call as it read before'; 0 by the template 'total and deterministic' (their statements: Qxb6604442aTotals.lean).
  GIVEN WITH THE SEED: the statements are not yours to turn. If you find one false, say at which input.
  Laid BY PROGRAM, IN A SANDBOX (cutbox-rows.mjs): the forced cells as the released guide's own fill.sh prints them over the translation c5c37bd13af98fba… (all of the seat's roots in one cut). By AI agents, Wed Nov 11 2026. No macro, syntax, notation, axiom, sorry.
-/
import Derived.Test.Qxb6604442aChecked
import GoSem.Claim
import GoSem.ClaimJoined
import GoSem.ClaimMapViews
import Derived.JoinedTies
import Derived.KernelRfl
namespace Go.Proofs.Qxb6604442a
/- THE CELL 'sum', in the pinned program and in every row, IS THE sha256 OF THE DUMP (.gsa) THAT Qxb6604442aProg.lean LOADS. Nothing in Lean hashes anything: it is a label: what it is worth is what the hold of that sum in a sandbox is worth. -/
noncomputable def Try.pinned : Pinned := { name := "qxb6604442a", sum := "c5c37bd13af98fba5cc554fe0400a00f744e8bc251b161e022843c7720d36885", checked := Try.checked }
namespace Rows
def none {H : Type} : Left H := { results := [], args := [] }

/-- 'zzlaws_cmd_b1.FnInstallerSetScriptFromEmpty': WHATEVER THE INPUT: true; the input reads as it did. -/
def fnInstallerSetScriptFromEmptySpec : ChangeSpec := { name := "fnInstallerSetScriptFromEmpty", fn := fun _ => fun
  | [d] => { results := [.lit (.bool true)], args := [d] }
  | _ => none }
def fnInstallerSetScriptFromEmptyRow : OpenClaim := { program := "qxb6604442a", sum := "c5c37bd13af98fba5cc554fe0400a00f744e8bc251b161e022843c7720d36885", func := "example.com/packscribe/packscribe/zzlaws_cmd_b1.FnInstallerSetScriptFromEmpty", spec := "fnInstallerSetScriptFromEmpty", apart := false }
def FnInstallerSetScriptFromEmptySaid : Prop := fnInstallerSetScriptFromEmptyRow.holds Try.pinned (OpenSpec.ofChange fnInstallerSetScriptFromEmptySpec)

/-- ITS FALSE NEIGHBOUR: 'it returns false'. Refute it at one input. -/
def fnInstallerSetScriptFromEmptyWrong : ChangeSpec := { name := "fnInstallerSetScriptFromEmpty", fn := fun _ => fun
  | [d] => { results := [.lit (.bool false)], args := [d] }
  | _ => none }
def FnInstallerSetScriptFromEmptyWrongFalsely : Prop := fnInstallerSetScriptFromEmptyRow.holds Try.pinned (OpenSpec.ofChange fnInstallerSetScriptFromEmptyWrong)

/-- 'zzlaws_cmd_b1.FnInstallerSetKeepsEarlierEntries': WHATEVER THE INPUT: true; the input reads as it did. -/
def fnInstallerSetKeepsEarlierEntriesSpec : ChangeSpec := { name := "fnInstallerSetKeepsEarlierEntries", fn := fun _ => fun
  | [d1, d2, d3] => { results := [.lit (.bool true)], args := [d1, d2, d3] }
  | _ => none }
def fnInstallerSetKeepsEarlierEntriesRow : OpenClaim := { program := "qxb6604442a", sum := "c5c37bd13af98fba5cc554fe0400a00f744e8bc251b161e022843c7720d36885", func := "example.com/packscribe/packscribe/zzlaws_cmd_b1.FnInstallerSetKeepsEarlierEntries", spec := "fnInstallerSetKeepsEarlierEntries", apart := false }
def FnInstallerSetKeepsEarlierEntriesSaid : Prop := fnInstallerSetKeepsEarlierEntriesRow.holds Try.pinned (OpenSpec.ofChange fnInstallerSetKeepsEarlierEntriesSpec)

/-- ITS FALSE NEIGHBOUR: 'it returns false'. Refute it at one input. -/
def fnInstallerSetKeepsEarlierEntriesWrong : ChangeSpec := { name := "fnInstallerSetKeepsEarlierEntries", fn := fun _ => fun
  | [d1, d2, d3] => { results := [.lit (.bool false)], args := [d1, d2, d3] }
  | _ => none }
def FnInstallerSetKeepsEarlierEntriesWrongFalsely : Prop := fnInstallerSetKeepsEarlierEntriesRow.holds Try.pinned (OpenSpec.ofChange fnInstallerSetKeepsEarlierEntriesWrong)

/-- 'zzlaws_cmd_b1.FnStreamHeapPopTakesLast': WHATEVER THE INPUT: true; the input reads as it did. -/
def fnStreamHeapPopTakesLastSpec : ChangeSpec := { name := "fnStreamHeapPopTakesLast", fn := fun _ => fun
  | [d] => { results := [.lit (.bool true)], args := [d] }
  | _ => none }
def fnStreamHeapPopTakesLastRow : OpenClaim := { program := "qxb6604442a", sum := "c5c37bd13af98fba5cc554fe0400a00f744e8bc251b161e022843c7720d36885", func := "example.com/packscribe/packscribe/zzlaws_cmd_b1.FnStreamHeapPopTakesLast", spec := "fnStreamHeapPopTakesLast", apart := false }
def FnStreamHeapPopTakesLastSaid : Prop := fnStreamHeapPopTakesLastRow.holds Try.pinned (OpenSpec.ofChange fnStreamHeapPopTakesLastSpec)

/-- ITS FALSE NEIGHBOUR: 'it returns false'. Refute it at one input. -/
def fnStreamHeapPopTakesLastWrong : ChangeSpec := { name := "fnStreamHeapPopTakesLast", fn := fun _ => fun
  | [d] => { results := [.lit (.bool false)], args := [d] }
  | _ => none }
def FnStreamHeapPopTakesLastWrongFalsely : Prop := fnStreamHeapPopTakesLastRow.holds Try.pinned (OpenSpec.ofChange fnStreamHeapPopTakesLastWrong)

/-- 'zzlaws_cmd_b1.FnAppendFindingDecodesCanonically': WHATEVER THE INPUT: true; the input reads as it did. -/
def fnAppendFindingDecodesCanonicallySpec : ChangeSpec := { name := "fnAppendFindingDecodesCanonically", fn := fun _ => fun
  | [d1, d2, d3, d4, d5, d6, d7] => { results := [.lit (.bool true)], args := [d1, d2, d3, d4, d5, d6, d7] }
  | _ => none }
def fnAppendFindingDecodesCanonicallyRow : OpenClaim := { program := "qxb6604442a", sum := "c5c37bd13af98fba5cc554fe0400a00f744e8bc251b161e022843c7720d36885", func := "example.com/packscribe/packscribe/zzlaws_cmd_b1.FnAppendFindingDecodesCanonically", spec := "fnAppendFindingDecodesCanonically", apart := false }
def FnAppendFindingDecodesCanonicallySaid : Prop := fnAppendFindingDecodesCanonicallyRow.holds Try.pinned (OpenSpec.ofChange fnAppendFindingDecodesCanonicallySpec)

/-- ITS FALSE NEIGHBOUR: 'it returns false'. Refute it at one input. -/
def fnAppendFindingDecodesCanonicallyWrong : ChangeSpec := { name := "fnAppendFindingDecodesCanonically", fn := fun _ => fun
  | [d1, d2, d3, d4, d5, d6, d7] => { results := [.lit (.bool false)], args := [d1, d2, d3, d4, d5, d6, d7] }
  | _ => none }
def FnAppendFindingDecodesCanonicallyWrongFalsely : Prop := fnAppendFindingDecodesCanonicallyRow.holds Try.pinned (OpenSpec.ofChange fnAppendFindingDecodesCanonicallyWrong)

/-- 'zzlaws_cmd_b1.FnAppendFindingPrefixAndLength': WHATEVER THE INPUT: true; the input reads as it did. -/
def fnAppendFindingPrefixAndLengthSpec : ChangeSpec := { name := "fnAppendFindingPrefixAndLength", fn := fun _ => fun
  | [d1, d2, d3, d4, d5, d6, d7] => { results := [.lit (.bool true)], args := [d1, d2, d3, d4, d5, d6, d7] }
  | _ => none }
def fnAppendFindingPrefixAndLengthRow : OpenClaim := { program := "qxb6604442a", sum := "c5c37bd13af98fba5cc554fe0400a00f744e8bc251b161e022843c7720d36885", func := "example.com/packscribe/packscribe/zzlaws_cmd_b1.FnAppendFindingPrefixAndLength", spec := "fnAppendFindingPrefixAndLength", apart := false }
def FnAppendFindingPrefixAndLengthSaid : Prop := fnAppendFindingPrefixAndLengthRow.holds Try.pinned (OpenSpec.ofChange fnAppendFindingPrefixAndLengthSpec)

/-- ITS FALSE NEIGHBOUR: 'it returns false'. Refute it at one input. -/
def fnAppendFindingPrefixAndLengthWrong : ChangeSpec := { name := "fnAppendFindingPrefixAndLength", fn := fun _ => fun
  | [d1, d2, d3, d4, d5, d6, d7] => { results := [.lit (.bool false)], args := [d1, d2, d3, d4, d5, d6, d7] }
  | _ => none }
def FnAppendFindingPrefixAndLengthWrongFalsely : Prop := fnAppendFindingPrefixAndLengthRow.holds Try.pinned (OpenSpec.ofChange fnAppendFindingPrefixAndLengthWrong)

end Rows
end Go.Proofs.Qxb6604442a
