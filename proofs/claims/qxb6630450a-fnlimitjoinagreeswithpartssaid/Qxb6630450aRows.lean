/-
  No cell of these rows narrows 'for every input' (looked for: loops, veiled, ifaces, maps, wideKeys, modest, calm, conditions, laid).
  DERIVED. THE GIVEN ROWS OF THIS SEAT. 2 by the template 'for every input the law returns true; each argument reads behind the call as it read before'; 0 by the template 'total and deterministic' (their statements: Qxb6630450aTotals.lean).
  GIVEN WITH THE SEED: the statements are not yours to turn. If you find one false, say at which input.
  Laid BY PROGRAM, IN A SANDBOX (cutbox-rows.mjs): the forced cells as the released guide's own fill.sh prints them over the translation 86b0adf5d7782b2d… (all of the seat's roots in one cut). By AI agents, Wed Nov 11 2026. No macro, syntax, notation, axiom, sorry.
-/
import Derived.Test.Qxb6630450aChecked
import GoSem.Claim
import GoSem.ClaimJoined
import GoSem.ClaimMapViews
import Derived.JoinedTies
import Derived.KernelRfl
namespace Go.Proofs.Qxb6630450a
/- THE CELL 'sum', in the pinned program and in every row, IS THE sha256 OF THE DUMP (.gsa) THAT Qxb6630450aProg.lean LOADS. Nothing in Lean hashes anything: it is a label: what it is worth is what the hold of that sum in a sandbox is worth. -/
noncomputable def Try.pinned : Pinned := { name := "qxb6630450a", sum := "86b0adf5d7782b2d90b131f19e55280842e0211d2793f05052bbc6f178812302", checked := Try.checked }
namespace Rows
def none {H : Type} : Left H := { results := [], args := [] }

/-- 'zzlaws_internal_access_b1.FnLimitTRACEInsertedAnywhereIsRefused': WHATEVER THE INPUT: true; the input reads as it did. -/
def fnLimitTRACEInsertedAnywhereIsRefusedSpec : ChangeSpec := { name := "fnLimitTRACEInsertedAnywhereIsRefused", fn := fun _ => fun
  | [d1, d2, d3] => { results := [.lit (.bool true)], args := [d1, d2, d3] }
  | _ => none }
def fnLimitTRACEInsertedAnywhereIsRefusedRow : OpenClaim := { program := "qxb6630450a", sum := "86b0adf5d7782b2d90b131f19e55280842e0211d2793f05052bbc6f178812302", func := "example.com/vhostwright/vhostwright/zzlaws_internal_access_b1.FnLimitTRACEInsertedAnywhereIsRefused", spec := "fnLimitTRACEInsertedAnywhereIsRefused", apart := false }
def FnLimitTRACEInsertedAnywhereIsRefusedSaid : Prop := fnLimitTRACEInsertedAnywhereIsRefusedRow.holds Try.pinned (OpenSpec.ofChange fnLimitTRACEInsertedAnywhereIsRefusedSpec)

/-- ITS FALSE NEIGHBOUR: 'it returns false'. Refute it at one input. -/
def fnLimitTRACEInsertedAnywhereIsRefusedWrong : ChangeSpec := { name := "fnLimitTRACEInsertedAnywhereIsRefused", fn := fun _ => fun
  | [d1, d2, d3] => { results := [.lit (.bool false)], args := [d1, d2, d3] }
  | _ => none }
def FnLimitTRACEInsertedAnywhereIsRefusedWrongFalsely : Prop := fnLimitTRACEInsertedAnywhereIsRefusedRow.holds Try.pinned (OpenSpec.ofChange fnLimitTRACEInsertedAnywhereIsRefusedWrong)

/-- 'zzlaws_internal_access_b1.FnLimitJoinAgreesWithParts': WHATEVER THE INPUT: true; the input reads as it did. -/
def fnLimitJoinAgreesWithPartsSpec : ChangeSpec := { name := "fnLimitJoinAgreesWithParts", fn := fun _ => fun
  | [d1, d2, d3] => { results := [.lit (.bool true)], args := [d1, d2, d3] }
  | _ => none }
def fnLimitJoinAgreesWithPartsRow : OpenClaim := { program := "qxb6630450a", sum := "86b0adf5d7782b2d90b131f19e55280842e0211d2793f05052bbc6f178812302", func := "example.com/vhostwright/vhostwright/zzlaws_internal_access_b1.FnLimitJoinAgreesWithParts", spec := "fnLimitJoinAgreesWithParts", apart := false }
def FnLimitJoinAgreesWithPartsSaid : Prop := fnLimitJoinAgreesWithPartsRow.holds Try.pinned (OpenSpec.ofChange fnLimitJoinAgreesWithPartsSpec)

/-- ITS FALSE NEIGHBOUR: 'it returns false'. Refute it at one input. -/
def fnLimitJoinAgreesWithPartsWrong : ChangeSpec := { name := "fnLimitJoinAgreesWithParts", fn := fun _ => fun
  | [d1, d2, d3] => { results := [.lit (.bool false)], args := [d1, d2, d3] }
  | _ => none }
def FnLimitJoinAgreesWithPartsWrongFalsely : Prop := fnLimitJoinAgreesWithPartsRow.holds Try.pinned (OpenSpec.ofChange fnLimitJoinAgreesWithPartsWrong)

end Rows
end Go.Proofs.Qxb6630450a
