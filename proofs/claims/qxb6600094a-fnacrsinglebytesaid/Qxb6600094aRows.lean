/-
  No cell of these rows narrows 'for every input' (looked for: loops, veiled, ifaces, maps, wideKeys, modest, calm, conditions, laid).
  DERIVED. THE GIVEN ROWS OF THIS SEAT. 2 by the template 'for every input the law returns true; each argument reads behind the call as it read before'; 0 by the template 'total and deterministic' (their statements: Qxb6600094aTotals.lean).
  GIVEN WITH THE SEED: the statements are not yours to turn. If you find one false, say at which input.
  Laid BY PROGRAM, IN A SANDBOX (cutbox-rows.mjs): the forced cells as the released guide's own fill.sh prints them over the translation e629d875c7a5ea39… (all of the seat's roots in one cut). By AI agents, Wed Nov 11 2026. No macro, syntax, notation, axiom, sorry.
-/
import Derived.Test.Qxb6600094aChecked
import GoSem.Claim
import GoSem.ClaimJoined
import GoSem.ClaimMapViews
import Derived.JoinedTies
import Derived.KernelRfl
namespace Go.Proofs.Qxb6600094a
/- THE CELL 'sum', in the pinned program and in every row, IS THE sha256 OF THE DUMP (.gsa) THAT Qxb6600094aProg.lean LOADS. Nothing in Lean hashes anything: it is a label: what it is worth is what the hold of that sum in a sandbox is worth. -/
noncomputable def Try.pinned : Pinned := { name := "qxb6600094a", sum := "e629d875c7a5ea3986839d8e5e1798083b3282f6a5e465c9d17042fd839c6b63", checked := Try.checked }
namespace Rows
def none {H : Type} : Left H := { results := [], args := [] }

/-- 'zzlaws_root_b1.FnACRConcat': WHATEVER THE INPUT: true; the input reads as it did. -/
def fnACRConcatSpec : ChangeSpec := { name := "fnACRConcat", fn := fun _ => fun
  | [d1, d2] => { results := [.lit (.bool true)], args := [d1, d2] }
  | _ => none }
def fnACRConcatRow : OpenClaim := { program := "qxb6600094a", sum := "e629d875c7a5ea3986839d8e5e1798083b3282f6a5e465c9d17042fd839c6b63", func := "example.com/principl/principl/zzlaws_root_b1.FnACRConcat", spec := "fnACRConcat", apart := false }
def FnACRConcatSaid : Prop := fnACRConcatRow.holds Try.pinned (OpenSpec.ofChange fnACRConcatSpec)

/-- ITS FALSE NEIGHBOUR: 'it returns false'. Refute it at one input. -/
def fnACRConcatWrong : ChangeSpec := { name := "fnACRConcat", fn := fun _ => fun
  | [d1, d2] => { results := [.lit (.bool false)], args := [d1, d2] }
  | _ => none }
def FnACRConcatWrongFalsely : Prop := fnACRConcatRow.holds Try.pinned (OpenSpec.ofChange fnACRConcatWrong)

/-- 'zzlaws_root_b1.FnACRSingleByte': WHATEVER THE INPUT: true; the input reads as it did. -/
def fnACRSingleByteSpec : ChangeSpec := { name := "fnACRSingleByte", fn := fun _ => fun
  | [d] => { results := [.lit (.bool true)], args := [d] }
  | _ => none }
def fnACRSingleByteRow : OpenClaim := { program := "qxb6600094a", sum := "e629d875c7a5ea3986839d8e5e1798083b3282f6a5e465c9d17042fd839c6b63", func := "example.com/principl/principl/zzlaws_root_b1.FnACRSingleByte", spec := "fnACRSingleByte", apart := false }
def FnACRSingleByteSaid : Prop := fnACRSingleByteRow.holds Try.pinned (OpenSpec.ofChange fnACRSingleByteSpec)

/-- ITS FALSE NEIGHBOUR: 'it returns false'. Refute it at one input. -/
def fnACRSingleByteWrong : ChangeSpec := { name := "fnACRSingleByte", fn := fun _ => fun
  | [d] => { results := [.lit (.bool false)], args := [d] }
  | _ => none }
def FnACRSingleByteWrongFalsely : Prop := fnACRSingleByteRow.holds Try.pinned (OpenSpec.ofChange fnACRSingleByteWrong)

end Rows
end Go.Proofs.Qxb6600094a
