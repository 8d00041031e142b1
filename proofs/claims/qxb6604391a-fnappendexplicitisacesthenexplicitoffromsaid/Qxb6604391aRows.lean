/-
  No cell of these rows narrows 'for every input' (looked for: loops, veiled, ifaces, maps, wideKeys, modest, calm, conditions, laid).
  DERIVED. THE GIVEN ROWS OF THIS SEAT. 4 by the template 'for every input the law returns true; each argument reads behind the call as it read before'; 0 by the template 'total and deterministic' (their statements: Qxb6604391aTotals.lean).
  GIVEN WITH THE SEED: the statements are not yours to turn. If you find one false, say at which input.
  Laid BY PROGRAM, IN A SANDBOX (cutbox-rows.mjs): the forced cells as the released guide's own fill.sh prints them over the translation 018c8c8a6c0e7911… (all of the seat's roots in one cut). By AI agents, Wed Nov 11 2026. No macro, syntax, notation, axiom, sorry.
-/
import Derived.Test.Qxb6604391aChecked
import GoSem.Claim
import GoSem.ClaimJoined
import GoSem.ClaimMapViews
import Derived.JoinedTies
import Derived.KernelRfl
namespace Go.Proofs.Qxb6604391a
/- THE CELL 'sum', in the pinned program and in every row, IS THE sha256 OF THE DUMP (.gsa) THAT Qxb6604391aProg.lean LOADS. Nothing in Lean hashes anything: it is a label: what it is worth is what the hold of that sum in a sandbox is worth. -/
noncomputable def Try.pinned : Pinned := { name := "qxb6604391a", sum := "018c8c8a6c0e791150dc541c06cf6184081631101693eacb73abec16443f97a8", checked := Try.checked }
namespace Rows
def none {H : Type} : Left H := { results := [], args := [] }

/-- 'zzlaws_root_b1.FnAppendExplicitIsAcesThenExplicitOfFrom': WHATEVER THE INPUT: true; the input reads as it did. -/
def fnAppendExplicitIsAcesThenExplicitOfFromSpec : ChangeSpec := { name := "fnAppendExplicitIsAcesThenExplicitOfFrom", fn := fun _ => fun
  | [d1, d2] => { results := [.lit (.bool true)], args := [d1, d2] }
  | _ => none }
def fnAppendExplicitIsAcesThenExplicitOfFromRow : OpenClaim := { program := "qxb6604391a", sum := "018c8c8a6c0e791150dc541c06cf6184081631101693eacb73abec16443f97a8", func := "example.com/acewalk/acewalk/zzlaws_root_b1.FnAppendExplicitIsAcesThenExplicitOfFrom", spec := "fnAppendExplicitIsAcesThenExplicitOfFrom", apart := false }
def FnAppendExplicitIsAcesThenExplicitOfFromSaid : Prop := fnAppendExplicitIsAcesThenExplicitOfFromRow.holds Try.pinned (OpenSpec.ofChange fnAppendExplicitIsAcesThenExplicitOfFromSpec)

/-- ITS FALSE NEIGHBOUR: 'it returns false'. Refute it at one input. -/
def fnAppendExplicitIsAcesThenExplicitOfFromWrong : ChangeSpec := { name := "fnAppendExplicitIsAcesThenExplicitOfFrom", fn := fun _ => fun
  | [d1, d2] => { results := [.lit (.bool false)], args := [d1, d2] }
  | _ => none }
def FnAppendExplicitIsAcesThenExplicitOfFromWrongFalsely : Prop := fnAppendExplicitIsAcesThenExplicitOfFromRow.holds Try.pinned (OpenSpec.ofChange fnAppendExplicitIsAcesThenExplicitOfFromWrong)

/-- 'zzlaws_root_b1.FnInheritedFlagsMatchesTheInheritanceTable': WHATEVER THE INPUT: true; the input reads as it did. -/
def fnInheritedFlagsMatchesTheInheritanceTableSpec : ChangeSpec := { name := "fnInheritedFlagsMatchesTheInheritanceTable", fn := fun _ => fun
  | [d1, d2] => { results := [.lit (.bool true)], args := [d1, d2] }
  | _ => none }
def fnInheritedFlagsMatchesTheInheritanceTableRow : OpenClaim := { program := "qxb6604391a", sum := "018c8c8a6c0e791150dc541c06cf6184081631101693eacb73abec16443f97a8", func := "example.com/acewalk/acewalk/zzlaws_root_b1.FnInheritedFlagsMatchesTheInheritanceTable", spec := "fnInheritedFlagsMatchesTheInheritanceTable", apart := false }
def FnInheritedFlagsMatchesTheInheritanceTableSaid : Prop := fnInheritedFlagsMatchesTheInheritanceTableRow.holds Try.pinned (OpenSpec.ofChange fnInheritedFlagsMatchesTheInheritanceTableSpec)

/-- ITS FALSE NEIGHBOUR: 'it returns false'. Refute it at one input. -/
def fnInheritedFlagsMatchesTheInheritanceTableWrong : ChangeSpec := { name := "fnInheritedFlagsMatchesTheInheritanceTable", fn := fun _ => fun
  | [d1, d2] => { results := [.lit (.bool false)], args := [d1, d2] }
  | _ => none }
def FnInheritedFlagsMatchesTheInheritanceTableWrongFalsely : Prop := fnInheritedFlagsMatchesTheInheritanceTableRow.holds Try.pinned (OpenSpec.ofChange fnInheritedFlagsMatchesTheInheritanceTableWrong)

/-- 'zzlaws_root_b1.FnInheritedFlagsPropagateOrStopOneLevelDown': WHATEVER THE INPUT: true; the input reads as it did. -/
def fnInheritedFlagsPropagateOrStopOneLevelDownSpec : ChangeSpec := { name := "fnInheritedFlagsPropagateOrStopOneLevelDown", fn := fun _ => fun
  | [d1, d2] => { results := [.lit (.bool true)], args := [d1, d2] }
  | _ => none }
def fnInheritedFlagsPropagateOrStopOneLevelDownRow : OpenClaim := { program := "qxb6604391a", sum := "018c8c8a6c0e791150dc541c06cf6184081631101693eacb73abec16443f97a8", func := "example.com/acewalk/acewalk/zzlaws_root_b1.FnInheritedFlagsPropagateOrStopOneLevelDown", spec := "fnInheritedFlagsPropagateOrStopOneLevelDown", apart := false }
def FnInheritedFlagsPropagateOrStopOneLevelDownSaid : Prop := fnInheritedFlagsPropagateOrStopOneLevelDownRow.holds Try.pinned (OpenSpec.ofChange fnInheritedFlagsPropagateOrStopOneLevelDownSpec)

/-- ITS FALSE NEIGHBOUR: 'it returns false'. Refute it at one input. -/
def fnInheritedFlagsPropagateOrStopOneLevelDownWrong : ChangeSpec := { name := "fnInheritedFlagsPropagateOrStopOneLevelDown", fn := fun _ => fun
  | [d1, d2] => { results := [.lit (.bool false)], args := [d1, d2] }
  | _ => none }
def FnInheritedFlagsPropagateOrStopOneLevelDownWrongFalsely : Prop := fnInheritedFlagsPropagateOrStopOneLevelDownRow.holds Try.pinned (OpenSpec.ofChange fnInheritedFlagsPropagateOrStopOneLevelDownWrong)

/-- 'zzlaws_root_b1.FnKnownIsTheTwelveOutcomes': WHATEVER THE INPUT: true; the input reads as it did. -/
def fnKnownIsTheTwelveOutcomesSpec : ChangeSpec := { name := "fnKnownIsTheTwelveOutcomes", fn := fun _ => fun
  | [d] => { results := [.lit (.bool true)], args := [d] }
  | _ => none }
def fnKnownIsTheTwelveOutcomesRow : OpenClaim := { program := "qxb6604391a", sum := "018c8c8a6c0e791150dc541c06cf6184081631101693eacb73abec16443f97a8", func := "example.com/acewalk/acewalk/zzlaws_root_b1.FnKnownIsTheTwelveOutcomes", spec := "fnKnownIsTheTwelveOutcomes", apart := false }
def FnKnownIsTheTwelveOutcomesSaid : Prop := fnKnownIsTheTwelveOutcomesRow.holds Try.pinned (OpenSpec.ofChange fnKnownIsTheTwelveOutcomesSpec)

/-- ITS FALSE NEIGHBOUR: 'it returns false'. Refute it at one input. -/
def fnKnownIsTheTwelveOutcomesWrong : ChangeSpec := { name := "fnKnownIsTheTwelveOutcomes", fn := fun _ => fun
  | [d] => { results := [.lit (.bool false)], args := [d] }
  | _ => none }
def FnKnownIsTheTwelveOutcomesWrongFalsely : Prop := fnKnownIsTheTwelveOutcomesRow.holds Try.pinned (OpenSpec.ofChange fnKnownIsTheTwelveOutcomesWrong)

end Rows
end Go.Proofs.Qxb6604391a
