/-
  No cell of these rows narrows 'for every input' (looked for: loops, veiled, ifaces, maps, wideKeys, modest, calm, conditions, laid).
  DERIVED. THE GIVEN ROWS OF THIS SEAT. 1 by the template 'for every input the law returns true; each argument reads behind the call as it read before'; 0 by the template 'total and deterministic' (their statements: Qxb6604542aTotals.lean).
  GIVEN WITH THE SEED: the statements are not yours to turn. If you find one false, say at which input.
  Laid BY PROGRAM, IN A SANDBOX (cutbox-rows.mjs): the forced cells as the released guide's own fill.sh prints them over the translation 1816973766d427ea… (all of the seat's roots in one cut). By AI agents, Wed Nov 11 2026. No macro, syntax, notation, axiom, sorry.
-/
import Derived.Test.Qxb6604542aChecked
import GoSem.Claim
import GoSem.ClaimJoined
import GoSem.ClaimMapViews
import Derived.JoinedTies
import Derived.KernelRfl
namespace Go.Proofs.Qxb6604542a
/- THE CELL 'sum', in the pinned program and in every row, IS THE sha256 OF THE DUMP (.gsa) THAT Qxb6604542aProg.lean LOADS. Nothing in Lean hashes anything: it is a label: what it is worth is what the hold of that sum in a sandbox is worth. -/
noncomputable def Try.pinned : Pinned := { name := "qxb6604542a", sum := "1816973766d427eaadf1e2d5dffbb5d610323d8427da0a3446a41738019d75c3", checked := Try.checked }
namespace Rows
def none {H : Type} : Left H := { results := [], args := [] }

/-- 'zzlaws_internal_regex_b1.FnAllowsByteByByte': WHATEVER THE INPUT: true; the input reads as it did. -/
def fnAllowsByteByByteSpec : ChangeSpec := { name := "fnAllowsByteByByte", fn := fun _ => fun
  | [d1, d2, d3, d4, d5] => { results := [.lit (.bool true)], args := [d1, d2, d3, d4, d5] }
  | _ => none }
def fnAllowsByteByByteRow : OpenClaim := { program := "qxb6604542a", sum := "1816973766d427eaadf1e2d5dffbb5d610323d8427da0a3446a41738019d75c3", func := "example.com/gatewright/gatewright/zzlaws_internal_regex_b1.FnAllowsByteByByte", spec := "fnAllowsByteByByte", apart := false }
def FnAllowsByteByByteSaid : Prop := fnAllowsByteByByteRow.holds Try.pinned (OpenSpec.ofChange fnAllowsByteByByteSpec)

/-- ITS FALSE NEIGHBOUR: 'it returns false'. Refute it at one input. -/
def fnAllowsByteByByteWrong : ChangeSpec := { name := "fnAllowsByteByByte", fn := fun _ => fun
  | [d1, d2, d3, d4, d5] => { results := [.lit (.bool false)], args := [d1, d2, d3, d4, d5] }
  | _ => none }
def FnAllowsByteByByteWrongFalsely : Prop := fnAllowsByteByByteRow.holds Try.pinned (OpenSpec.ofChange fnAllowsByteByByteWrong)

end Rows
end Go.Proofs.Qxb6604542a
