/-
  No cell of these rows narrows 'for every input' (looked for: loops, veiled, ifaces, maps, wideKeys, modest, calm, conditions, laid).
  DERIVED. THE GIVEN ROWS OF THIS SEAT. 5 by the template 'for every input the law returns true; each argument reads behind the call as it read before'; 0 by the template 'total and deterministic' (their statements: Qxb6600088aTotals.lean).
  GIVEN WITH THE SEED: the statements are not yours to turn. If you find one false, say at which input.
  Laid BY PROGRAM, IN A SANDBOX (cutbox-rows.mjs): the forced cells as the released guide's own fill.sh prints them over the translation 2618023324e1f50f… (all of the seat's roots in one cut). By AI agents, Wed Nov 11 2026. No macro, syntax, notation, axiom, sorry.
-/
import Derived.Test.Qxb6600088aChecked
import GoSem.Claim
import GoSem.ClaimJoined
import GoSem.ClaimMapViews
import Derived.JoinedTies
import Derived.KernelRfl
namespace Go.Proofs.Qxb6600088a
/- THE CELL 'sum', in the pinned program and in every row, IS THE sha256 OF THE DUMP (.gsa) THAT Qxb6600088aProg.lean LOADS. Nothing in Lean hashes anything: it is a label: what it is worth is what the hold of that sum in a sandbox is worth. -/
noncomputable def Try.pinned : Pinned := { name := "qxb6600088a", sum := "2618023324e1f50f7c91591a16b6398ccb4b379185d02d79b765d7d2f916ce4a", checked := Try.checked }
namespace Rows
def none {H : Type} : Left H := { results := [], args := [] }

/-- 'zzlaws_root_b1.FnAppendJSONStringRoundTrip': WHATEVER THE INPUT: true; the input reads as it did. -/
def fnAppendJSONStringRoundTripSpec : ChangeSpec := { name := "fnAppendJSONStringRoundTrip", fn := fun _ => fun
  | [d] => { results := [.lit (.bool true)], args := [d] }
  | _ => none }
def fnAppendJSONStringRoundTripRow : OpenClaim := { program := "qxb6600088a", sum := "2618023324e1f50f7c91591a16b6398ccb4b379185d02d79b765d7d2f916ce4a", func := "example.com/tidemark/tidemark/zzlaws_root_b1.FnAppendJSONStringRoundTrip", spec := "fnAppendJSONStringRoundTrip", apart := false }
def FnAppendJSONStringRoundTripSaid : Prop := fnAppendJSONStringRoundTripRow.holds Try.pinned (OpenSpec.ofChange fnAppendJSONStringRoundTripSpec)

/-- ITS FALSE NEIGHBOUR: 'it returns false'. Refute it at one input. -/
def fnAppendJSONStringRoundTripWrong : ChangeSpec := { name := "fnAppendJSONStringRoundTrip", fn := fun _ => fun
  | [d] => { results := [.lit (.bool false)], args := [d] }
  | _ => none }
def FnAppendJSONStringRoundTripWrongFalsely : Prop := fnAppendJSONStringRoundTripRow.holds Try.pinned (OpenSpec.ofChange fnAppendJSONStringRoundTripWrong)

/-- 'zzlaws_root_b1.FnAppendJSONStringKeepsPrefix': WHATEVER THE INPUT: true; the input reads as it did. -/
def fnAppendJSONStringKeepsPrefixSpec : ChangeSpec := { name := "fnAppendJSONStringKeepsPrefix", fn := fun _ => fun
  | [d1, d2] => { results := [.lit (.bool true)], args := [d1, d2] }
  | _ => none }
def fnAppendJSONStringKeepsPrefixRow : OpenClaim := { program := "qxb6600088a", sum := "2618023324e1f50f7c91591a16b6398ccb4b379185d02d79b765d7d2f916ce4a", func := "example.com/tidemark/tidemark/zzlaws_root_b1.FnAppendJSONStringKeepsPrefix", spec := "fnAppendJSONStringKeepsPrefix", apart := false }
def FnAppendJSONStringKeepsPrefixSaid : Prop := fnAppendJSONStringKeepsPrefixRow.holds Try.pinned (OpenSpec.ofChange fnAppendJSONStringKeepsPrefixSpec)

/-- ITS FALSE NEIGHBOUR: 'it returns false'. Refute it at one input. -/
def fnAppendJSONStringKeepsPrefixWrong : ChangeSpec := { name := "fnAppendJSONStringKeepsPrefix", fn := fun _ => fun
  | [d1, d2] => { results := [.lit (.bool false)], args := [d1, d2] }
  | _ => none }
def FnAppendJSONStringKeepsPrefixWrongFalsely : Prop := fnAppendJSONStringKeepsPrefixRow.holds Try.pinned (OpenSpec.ofChange fnAppendJSONStringKeepsPrefixWrong)

/-- 'zzlaws_root_b1.FnAppendJSONStringLengthBounds': WHATEVER THE INPUT: true; the input reads as it did. -/
def fnAppendJSONStringLengthBoundsSpec : ChangeSpec := { name := "fnAppendJSONStringLengthBounds", fn := fun _ => fun
  | [d] => { results := [.lit (.bool true)], args := [d] }
  | _ => none }
def fnAppendJSONStringLengthBoundsRow : OpenClaim := { program := "qxb6600088a", sum := "2618023324e1f50f7c91591a16b6398ccb4b379185d02d79b765d7d2f916ce4a", func := "example.com/tidemark/tidemark/zzlaws_root_b1.FnAppendJSONStringLengthBounds", spec := "fnAppendJSONStringLengthBounds", apart := false }
def FnAppendJSONStringLengthBoundsSaid : Prop := fnAppendJSONStringLengthBoundsRow.holds Try.pinned (OpenSpec.ofChange fnAppendJSONStringLengthBoundsSpec)

/-- ITS FALSE NEIGHBOUR: 'it returns false'. Refute it at one input. -/
def fnAppendJSONStringLengthBoundsWrong : ChangeSpec := { name := "fnAppendJSONStringLengthBounds", fn := fun _ => fun
  | [d] => { results := [.lit (.bool false)], args := [d] }
  | _ => none }
def FnAppendJSONStringLengthBoundsWrongFalsely : Prop := fnAppendJSONStringLengthBoundsRow.holds Try.pinned (OpenSpec.ofChange fnAppendJSONStringLengthBoundsWrong)

/-- 'zzlaws_root_b1.FnValidTableNamePrefixClosed': WHATEVER THE INPUT: true; the input reads as it did. -/
def fnValidTableNamePrefixClosedSpec : ChangeSpec := { name := "fnValidTableNamePrefixClosed", fn := fun _ => fun
  | [d] => { results := [.lit (.bool true)], args := [d] }
  | _ => none }
def fnValidTableNamePrefixClosedRow : OpenClaim := { program := "qxb6600088a", sum := "2618023324e1f50f7c91591a16b6398ccb4b379185d02d79b765d7d2f916ce4a", func := "example.com/tidemark/tidemark/zzlaws_root_b1.FnValidTableNamePrefixClosed", spec := "fnValidTableNamePrefixClosed", apart := false }
def FnValidTableNamePrefixClosedSaid : Prop := fnValidTableNamePrefixClosedRow.holds Try.pinned (OpenSpec.ofChange fnValidTableNamePrefixClosedSpec)

/-- ITS FALSE NEIGHBOUR: 'it returns false'. Refute it at one input. -/
def fnValidTableNamePrefixClosedWrong : ChangeSpec := { name := "fnValidTableNamePrefixClosed", fn := fun _ => fun
  | [d] => { results := [.lit (.bool false)], args := [d] }
  | _ => none }
def FnValidTableNamePrefixClosedWrongFalsely : Prop := fnValidTableNamePrefixClosedRow.holds Try.pinned (OpenSpec.ofChange fnValidTableNamePrefixClosedWrong)

/-- 'zzlaws_root_b1.FnValidTableNameRefusesForeignByte': WHATEVER THE INPUT: true; the input reads as it did. -/
def fnValidTableNameRefusesForeignByteSpec : ChangeSpec := { name := "fnValidTableNameRefusesForeignByte", fn := fun _ => fun
  | [d1, d2, d3] => { results := [.lit (.bool true)], args := [d1, d2, d3] }
  | _ => none }
def fnValidTableNameRefusesForeignByteRow : OpenClaim := { program := "qxb6600088a", sum := "2618023324e1f50f7c91591a16b6398ccb4b379185d02d79b765d7d2f916ce4a", func := "example.com/tidemark/tidemark/zzlaws_root_b1.FnValidTableNameRefusesForeignByte", spec := "fnValidTableNameRefusesForeignByte", apart := false }
def FnValidTableNameRefusesForeignByteSaid : Prop := fnValidTableNameRefusesForeignByteRow.holds Try.pinned (OpenSpec.ofChange fnValidTableNameRefusesForeignByteSpec)

/-- ITS FALSE NEIGHBOUR: 'it returns false'. Refute it at one input. -/
def fnValidTableNameRefusesForeignByteWrong : ChangeSpec := { name := "fnValidTableNameRefusesForeignByte", fn := fun _ => fun
  | [d1, d2, d3] => { results := [.lit (.bool false)], args := [d1, d2, d3] }
  | _ => none }
def FnValidTableNameRefusesForeignByteWrongFalsely : Prop := fnValidTableNameRefusesForeignByteRow.holds Try.pinned (OpenSpec.ofChange fnValidTableNameRefusesForeignByteWrong)

end Rows
end Go.Proofs.Qxb6600088a
