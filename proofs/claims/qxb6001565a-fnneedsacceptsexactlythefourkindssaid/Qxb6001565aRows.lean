/-
  No cell of these rows narrows 'for every input' (looked for: loops, veiled, ifaces, maps, wideKeys, modest, calm, conditions, laid).
  DERIVED. THE GIVEN ROWS OF THIS SEAT. 3 by the template 'for every input the law returns true; each argument reads behind the call as it read before'; 0 by the template 'total and deterministic' (their statements: Qxb6001565aTotals.lean).
  GIVEN WITH THE SEED: the statements are not yours to turn. If you find one false, say at which input.
  Laid BY PROGRAM, IN A SANDBOX (cutbox-rows.mjs): the forced cells as the released guide's own fill.sh prints them over the translation f33a2301afb8be85… (all of the seat's roots in one cut). By AI agents, Wed Nov 11 2026. No macro, syntax, notation, axiom, sorry.
-/
import Derived.Test.Qxb6001565aChecked
import GoSem.Claim
import GoSem.ClaimJoined
import GoSem.ClaimMapViews
import Derived.JoinedTies
import Derived.KernelRfl
namespace Go.Proofs.Qxb6001565a
/- THE CELL 'sum', in the pinned program and in every row, IS THE sha256 OF THE DUMP (.gsa) THAT Qxb6001565aProg.lean LOADS. Nothing in Lean hashes anything: it is a label: what it is worth is what the hold of that sum in a sandbox is worth. -/
noncomputable def Try.pinned : Pinned := { name := "qxb6001565a", sum := "f33a2301afb8be856e3020e6510377a8a944d4536255e0819fb6b1dc15b4ade3", checked := Try.checked }
namespace Rows
def none {H : Type} : Left H := { results := [], args := [] }

/-- 'zzlaws_root_b1.FnNeedsAcceptsExactlyTheFourKinds': WHATEVER THE INPUT: true; the input reads as it did. -/
def fnNeedsAcceptsExactlyTheFourKindsSpec : ChangeSpec := { name := "fnNeedsAcceptsExactlyTheFourKinds", fn := fun _ => fun
  | [d] => { results := [.lit (.bool true)], args := [d] }
  | _ => none }
def fnNeedsAcceptsExactlyTheFourKindsRow : OpenClaim := { program := "qxb6001565a", sum := "f33a2301afb8be856e3020e6510377a8a944d4536255e0819fb6b1dc15b4ade3", func := "example.com/vestline/vestline/zzlaws_root_b1.FnNeedsAcceptsExactlyTheFourKinds", spec := "fnNeedsAcceptsExactlyTheFourKinds", apart := false }
def FnNeedsAcceptsExactlyTheFourKindsSaid : Prop := fnNeedsAcceptsExactlyTheFourKindsRow.holds Try.pinned (OpenSpec.ofChange fnNeedsAcceptsExactlyTheFourKindsSpec)

/-- ITS FALSE NEIGHBOUR: 'it returns false'. Refute it at one input. -/
def fnNeedsAcceptsExactlyTheFourKindsWrong : ChangeSpec := { name := "fnNeedsAcceptsExactlyTheFourKinds", fn := fun _ => fun
  | [d] => { results := [.lit (.bool false)], args := [d] }
  | _ => none }
def FnNeedsAcceptsExactlyTheFourKindsWrongFalsely : Prop := fnNeedsAcceptsExactlyTheFourKindsRow.holds Try.pinned (OpenSpec.ofChange fnNeedsAcceptsExactlyTheFourKindsWrong)

/-- 'zzlaws_root_b1.FnNeedsKeysStrictlyAscending': WHATEVER THE INPUT: true; the input reads as it did. -/
def fnNeedsKeysStrictlyAscendingSpec : ChangeSpec := { name := "fnNeedsKeysStrictlyAscending", fn := fun _ => fun
  | [d] => { results := [.lit (.bool true)], args := [d] }
  | _ => none }
def fnNeedsKeysStrictlyAscendingRow : OpenClaim := { program := "qxb6001565a", sum := "f33a2301afb8be856e3020e6510377a8a944d4536255e0819fb6b1dc15b4ade3", func := "example.com/vestline/vestline/zzlaws_root_b1.FnNeedsKeysStrictlyAscending", spec := "fnNeedsKeysStrictlyAscending", apart := false }
def FnNeedsKeysStrictlyAscendingSaid : Prop := fnNeedsKeysStrictlyAscendingRow.holds Try.pinned (OpenSpec.ofChange fnNeedsKeysStrictlyAscendingSpec)

/-- ITS FALSE NEIGHBOUR: 'it returns false'. Refute it at one input. -/
def fnNeedsKeysStrictlyAscendingWrong : ChangeSpec := { name := "fnNeedsKeysStrictlyAscending", fn := fun _ => fun
  | [d] => { results := [.lit (.bool false)], args := [d] }
  | _ => none }
def FnNeedsKeysStrictlyAscendingWrongFalsely : Prop := fnNeedsKeysStrictlyAscendingRow.holds Try.pinned (OpenSpec.ofChange fnNeedsKeysStrictlyAscendingWrong)

/-- 'zzlaws_root_b1.FnNeedsResultIsFresh': WHATEVER THE INPUT: true; the input reads as it did. -/
def fnNeedsResultIsFreshSpec : ChangeSpec := { name := "fnNeedsResultIsFresh", fn := fun _ => fun
  | [d] => { results := [.lit (.bool true)], args := [d] }
  | _ => none }
def fnNeedsResultIsFreshRow : OpenClaim := { program := "qxb6001565a", sum := "f33a2301afb8be856e3020e6510377a8a944d4536255e0819fb6b1dc15b4ade3", func := "example.com/vestline/vestline/zzlaws_root_b1.FnNeedsResultIsFresh", spec := "fnNeedsResultIsFresh", apart := false }
def FnNeedsResultIsFreshSaid : Prop := fnNeedsResultIsFreshRow.holds Try.pinned (OpenSpec.ofChange fnNeedsResultIsFreshSpec)

/-- ITS FALSE NEIGHBOUR: 'it returns false'. Refute it at one input. -/
def fnNeedsResultIsFreshWrong : ChangeSpec := { name := "fnNeedsResultIsFresh", fn := fun _ => fun
  | [d] => { results := [.lit (.bool false)], args := [d] }
  | _ => none }
def FnNeedsResultIsFreshWrongFalsely : Prop := fnNeedsResultIsFreshRow.holds Try.pinned (OpenSpec.ofChange fnNeedsResultIsFreshWrong)

end Rows
end Go.Proofs.Qxb6001565a
