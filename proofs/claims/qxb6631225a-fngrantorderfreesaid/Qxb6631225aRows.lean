/-
  No cell of these rows narrows 'for every input' (looked for: loops, veiled, ifaces, maps, wideKeys, modest, calm, conditions, laid).
  DERIVED. THE GIVEN ROWS OF THIS SEAT. 2 by the template 'for every input the law returns true; each argument reads behind the call as it read before'; 0 by the template 'total and deterministic' (their statements: Qxb6631225aTotals.lean).
  GIVEN WITH THE SEED: the statements are not yours to turn. If you find one false, say at which input.
  Laid BY PROGRAM, IN A SANDBOX (cutbox-rows.mjs): the forced cells as the released guide's own fill.sh prints them over the translation 71a3715f0d04c508… (all of the seat's roots in one cut). By AI agents, Wed Nov 11 2026. No macro, syntax, notation, axiom, sorry.
-/
import Derived.Test.Qxb6631225aChecked
import GoSem.Claim
import GoSem.ClaimJoined
import GoSem.ClaimMapViews
import Derived.JoinedTies
import Derived.KernelRfl
namespace Go.Proofs.Qxb6631225a
/- THE CELL 'sum', in the pinned program and in every row, IS THE sha256 OF THE DUMP (.gsa) THAT Qxb6631225aProg.lean LOADS. Nothing in Lean hashes anything: it is a label: what it is worth is what the hold of that sum in a sandbox is worth. -/
noncomputable def Try.pinned : Pinned := { name := "qxb6631225a", sum := "71a3715f0d04c508063c26e0f99e262cbc575906c30bc37d3421d8ba748db6a6", checked := Try.checked }
namespace Rows
def none {H : Type} : Left H := { results := [], args := [] }

/-- 'zzlaws_internal_flowcontrol_b1.FnGrantSplitAgreesWithWhole': WHATEVER THE INPUT: true; the input reads as it did. -/
def fnGrantSplitAgreesWithWholeSpec : ChangeSpec := { name := "fnGrantSplitAgreesWithWhole", fn := fun _ => fun
  | [d1, d2, d3] => { results := [.lit (.bool true)], args := [d1, d2, d3] }
  | _ => none }
def fnGrantSplitAgreesWithWholeRow : OpenClaim := { program := "qxb6631225a", sum := "71a3715f0d04c508063c26e0f99e262cbc575906c30bc37d3421d8ba748db6a6", func := "example.com/culvert/culvert/zzlaws_internal_flowcontrol_b1.FnGrantSplitAgreesWithWhole", spec := "fnGrantSplitAgreesWithWhole", apart := false }
def FnGrantSplitAgreesWithWholeSaid : Prop := fnGrantSplitAgreesWithWholeRow.holds Try.pinned (OpenSpec.ofChange fnGrantSplitAgreesWithWholeSpec)

/-- ITS FALSE NEIGHBOUR: 'it returns false'. Refute it at one input. -/
def fnGrantSplitAgreesWithWholeWrong : ChangeSpec := { name := "fnGrantSplitAgreesWithWhole", fn := fun _ => fun
  | [d1, d2, d3] => { results := [.lit (.bool false)], args := [d1, d2, d3] }
  | _ => none }
def FnGrantSplitAgreesWithWholeWrongFalsely : Prop := fnGrantSplitAgreesWithWholeRow.holds Try.pinned (OpenSpec.ofChange fnGrantSplitAgreesWithWholeWrong)

/-- 'zzlaws_internal_flowcontrol_b1.FnGrantOrderFree': WHATEVER THE INPUT: true; the input reads as it did. -/
def fnGrantOrderFreeSpec : ChangeSpec := { name := "fnGrantOrderFree", fn := fun _ => fun
  | [d1, d2, d3] => { results := [.lit (.bool true)], args := [d1, d2, d3] }
  | _ => none }
def fnGrantOrderFreeRow : OpenClaim := { program := "qxb6631225a", sum := "71a3715f0d04c508063c26e0f99e262cbc575906c30bc37d3421d8ba748db6a6", func := "example.com/culvert/culvert/zzlaws_internal_flowcontrol_b1.FnGrantOrderFree", spec := "fnGrantOrderFree", apart := false }
def FnGrantOrderFreeSaid : Prop := fnGrantOrderFreeRow.holds Try.pinned (OpenSpec.ofChange fnGrantOrderFreeSpec)

/-- ITS FALSE NEIGHBOUR: 'it returns false'. Refute it at one input. -/
def fnGrantOrderFreeWrong : ChangeSpec := { name := "fnGrantOrderFree", fn := fun _ => fun
  | [d1, d2, d3] => { results := [.lit (.bool false)], args := [d1, d2, d3] }
  | _ => none }
def FnGrantOrderFreeWrongFalsely : Prop := fnGrantOrderFreeRow.holds Try.pinned (OpenSpec.ofChange fnGrantOrderFreeWrong)

end Rows
end Go.Proofs.Qxb6631225a
