/-
  No cell of these rows narrows 'for every input' (looked for: loops, veiled, ifaces, maps, wideKeys, modest, calm, conditions, laid).
  DERIVED. THE GIVEN ROWS OF THIS SEAT. 4 by the template 'for every input the law returns true; each argument reads behind the call as it read before'; 0 by the template 'total and deterministic' (their statements: Qxb6614282aTotals.lean).
  GIVEN WITH THE SEED: the statements are not yours to turn. If you find one false, say at which input.
  Laid BY PROGRAM, IN A SANDBOX (cutbox-rows.mjs): the forced cells as the released guide's own fill.sh prints them over the translation e0cccbbc979ee1d7… (all of the seat's roots in one cut). By AI agents, Wed Nov 11 2026. No macro, syntax, notation, axiom, sorry.
-/
import Derived.Test.Qxb6614282aChecked
import GoSem.Claim
import GoSem.ClaimJoined
import GoSem.ClaimMapViews
import Derived.JoinedTies
import Derived.KernelRfl
namespace Go.Proofs.Qxb6614282a
/- THE CELL 'sum', in the pinned program and in every row, IS THE sha256 OF THE DUMP (.gsa) THAT Qxb6614282aProg.lean LOADS. Nothing in Lean hashes anything: it is a label: what it is worth is what the hold of that sum in a sandbox is worth. -/
noncomputable def Try.pinned : Pinned := { name := "qxb6614282a", sum := "e0cccbbc979ee1d7d83cda9be1e0ac06a5d23a53bd937988f2ee8db41a146699", checked := Try.checked }
namespace Rows
def none {H : Type} : Left H := { results := [], args := [] }

/-- 'zzlaws_root_b1.FnSwapScriptActsAsPermutation': WHATEVER THE INPUT: true; the input reads as it did. -/
def fnSwapScriptActsAsPermutationSpec : ChangeSpec := { name := "fnSwapScriptActsAsPermutation", fn := fun _ => fun
  | [d1, d2] => { results := [.lit (.bool true)], args := [d1, d2] }
  | _ => none }
def fnSwapScriptActsAsPermutationRow : OpenClaim := { program := "qxb6614282a", sum := "e0cccbbc979ee1d7d83cda9be1e0ac06a5d23a53bd937988f2ee8db41a146699", func := "example.com/frozen-hour/frozen-hour/zzlaws_root_b1.FnSwapScriptActsAsPermutation", spec := "fnSwapScriptActsAsPermutation", apart := false }
def FnSwapScriptActsAsPermutationSaid : Prop := fnSwapScriptActsAsPermutationRow.holds Try.pinned (OpenSpec.ofChange fnSwapScriptActsAsPermutationSpec)

/-- ITS FALSE NEIGHBOUR: 'it returns false'. Refute it at one input. -/
def fnSwapScriptActsAsPermutationWrong : ChangeSpec := { name := "fnSwapScriptActsAsPermutation", fn := fun _ => fun
  | [d1, d2] => { results := [.lit (.bool false)], args := [d1, d2] }
  | _ => none }
def FnSwapScriptActsAsPermutationWrongFalsely : Prop := fnSwapScriptActsAsPermutationRow.holds Try.pinned (OpenSpec.ofChange fnSwapScriptActsAsPermutationWrong)

/-- 'zzlaws_root_b1.FnSwapToLastThenPopRemovesAt': WHATEVER THE INPUT: true; the input reads as it did. -/
def fnSwapToLastThenPopRemovesAtSpec : ChangeSpec := { name := "fnSwapToLastThenPopRemovesAt", fn := fun _ => fun
  | [d1, d2] => { results := [.lit (.bool true)], args := [d1, d2] }
  | _ => none }
def fnSwapToLastThenPopRemovesAtRow : OpenClaim := { program := "qxb6614282a", sum := "e0cccbbc979ee1d7d83cda9be1e0ac06a5d23a53bd937988f2ee8db41a146699", func := "example.com/frozen-hour/frozen-hour/zzlaws_root_b1.FnSwapToLastThenPopRemovesAt", spec := "fnSwapToLastThenPopRemovesAt", apart := false }
def FnSwapToLastThenPopRemovesAtSaid : Prop := fnSwapToLastThenPopRemovesAtRow.holds Try.pinned (OpenSpec.ofChange fnSwapToLastThenPopRemovesAtSpec)

/-- ITS FALSE NEIGHBOUR: 'it returns false'. Refute it at one input. -/
def fnSwapToLastThenPopRemovesAtWrong : ChangeSpec := { name := "fnSwapToLastThenPopRemovesAt", fn := fun _ => fun
  | [d1, d2] => { results := [.lit (.bool false)], args := [d1, d2] }
  | _ => none }
def FnSwapToLastThenPopRemovesAtWrongFalsely : Prop := fnSwapToLastThenPopRemovesAtRow.holds Try.pinned (OpenSpec.ofChange fnSwapToLastThenPopRemovesAtWrong)

/-- 'zzlaws_root_b1.FnPopDrainsLastFirst': WHATEVER THE INPUT: true; the input reads as it did. -/
def fnPopDrainsLastFirstSpec : ChangeSpec := { name := "fnPopDrainsLastFirst", fn := fun _ => fun
  | [d] => { results := [.lit (.bool true)], args := [d] }
  | _ => none }
def fnPopDrainsLastFirstRow : OpenClaim := { program := "qxb6614282a", sum := "e0cccbbc979ee1d7d83cda9be1e0ac06a5d23a53bd937988f2ee8db41a146699", func := "example.com/frozen-hour/frozen-hour/zzlaws_root_b1.FnPopDrainsLastFirst", spec := "fnPopDrainsLastFirst", apart := false }
def FnPopDrainsLastFirstSaid : Prop := fnPopDrainsLastFirstRow.holds Try.pinned (OpenSpec.ofChange fnPopDrainsLastFirstSpec)

/-- ITS FALSE NEIGHBOUR: 'it returns false'. Refute it at one input. -/
def fnPopDrainsLastFirstWrong : ChangeSpec := { name := "fnPopDrainsLastFirst", fn := fun _ => fun
  | [d] => { results := [.lit (.bool false)], args := [d] }
  | _ => none }
def FnPopDrainsLastFirstWrongFalsely : Prop := fnPopDrainsLastFirstRow.holds Try.pinned (OpenSpec.ofChange fnPopDrainsLastFirstWrong)

/-- 'zzlaws_root_b1.FnSwapPopScriptAgreesWithList': WHATEVER THE INPUT: true; the input reads as it did. -/
def fnSwapPopScriptAgreesWithListSpec : ChangeSpec := { name := "fnSwapPopScriptAgreesWithList", fn := fun _ => fun
  | [d1, d2] => { results := [.lit (.bool true)], args := [d1, d2] }
  | _ => none }
def fnSwapPopScriptAgreesWithListRow : OpenClaim := { program := "qxb6614282a", sum := "e0cccbbc979ee1d7d83cda9be1e0ac06a5d23a53bd937988f2ee8db41a146699", func := "example.com/frozen-hour/frozen-hour/zzlaws_root_b1.FnSwapPopScriptAgreesWithList", spec := "fnSwapPopScriptAgreesWithList", apart := false }
def FnSwapPopScriptAgreesWithListSaid : Prop := fnSwapPopScriptAgreesWithListRow.holds Try.pinned (OpenSpec.ofChange fnSwapPopScriptAgreesWithListSpec)

/-- ITS FALSE NEIGHBOUR: 'it returns false'. Refute it at one input. -/
def fnSwapPopScriptAgreesWithListWrong : ChangeSpec := { name := "fnSwapPopScriptAgreesWithList", fn := fun _ => fun
  | [d1, d2] => { results := [.lit (.bool false)], args := [d1, d2] }
  | _ => none }
def FnSwapPopScriptAgreesWithListWrongFalsely : Prop := fnSwapPopScriptAgreesWithListRow.holds Try.pinned (OpenSpec.ofChange fnSwapPopScriptAgreesWithListWrong)

end Rows
end Go.Proofs.Qxb6614282a
