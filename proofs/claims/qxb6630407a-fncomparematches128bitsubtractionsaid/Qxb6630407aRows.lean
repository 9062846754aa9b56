/-
  No cell of these rows narrows 'for every input' (looked for: loops, veiled, ifaces, maps, wideKeys, modest, calm, conditions, laid).
  DERIVED. THE GIVEN ROWS OF THIS SEAT. 2 by the template 'for every input the law returns true; each argument reads behind the call as it read before'; 0 by the template 'total and deterministic' (their statements: Qxb6630407aTotals.lean).
  GIVEN WITH THE SEED: the statements are not yours to turn. If you find one false, say at which input.
  Laid BY PROGRAM, IN A SANDBOX (cutbox-rows.mjs): the forced cells as the released guide's own fill.sh prints them over the translation 108806e522bcd988… (all of the seat's roots in one cut). By AI agents, Wed Nov 11 2026. No macro, syntax, notation, axiom, sorry.
-/
import Derived.Test.Qxb6630407aChecked
import GoSem.Claim
import GoSem.ClaimJoined
import GoSem.ClaimMapViews
import Derived.JoinedTies
import Derived.KernelRfl
namespace Go.Proofs.Qxb6630407a
/- THE CELL 'sum', in the pinned program and in every row, IS THE sha256 OF THE DUMP (.gsa) THAT Qxb6630407aProg.lean LOADS. Nothing in Lean hashes anything: it is a label: what it is worth is what the hold of that sum in a sandbox is worth. -/
noncomputable def Try.pinned : Pinned := { name := "qxb6630407a", sum := "108806e522bcd988ae5f906b79df5ba6cadfa0b88e6b6691ac89013a331a7b8e", checked := Try.checked }
namespace Rows
def none {H : Type} : Left H := { results := [], args := [] }

/-- 'zzlaws_internal_stream_b1.FnCompareStepForward': WHATEVER THE INPUT: true; the input reads as it did. -/
def fnCompareStepForwardSpec : ChangeSpec := { name := "fnCompareStepForward", fn := fun _ => fun
  | [d1, d2, d3] => { results := [.lit (.bool true)], args := [d1, d2, d3] }
  | _ => none }
def fnCompareStepForwardRow : OpenClaim := { program := "qxb6630407a", sum := "108806e522bcd988ae5f906b79df5ba6cadfa0b88e6b6691ac89013a331a7b8e", func := "example.com/ledgerline/ledgerline/zzlaws_internal_stream_b1.FnCompareStepForward", spec := "fnCompareStepForward", apart := false }
def FnCompareStepForwardSaid : Prop := fnCompareStepForwardRow.holds Try.pinned (OpenSpec.ofChange fnCompareStepForwardSpec)

/-- ITS FALSE NEIGHBOUR: 'it returns false'. Refute it at one input. -/
def fnCompareStepForwardWrong : ChangeSpec := { name := "fnCompareStepForward", fn := fun _ => fun
  | [d1, d2, d3] => { results := [.lit (.bool false)], args := [d1, d2, d3] }
  | _ => none }
def FnCompareStepForwardWrongFalsely : Prop := fnCompareStepForwardRow.holds Try.pinned (OpenSpec.ofChange fnCompareStepForwardWrong)

/-- 'zzlaws_internal_stream_b1.FnCompareMatches128BitSubtraction': WHATEVER THE INPUT: true; the input reads as it did. -/
def fnCompareMatches128BitSubtractionSpec : ChangeSpec := { name := "fnCompareMatches128BitSubtraction", fn := fun _ => fun
  | [d1, d2, d3, d4] => { results := [.lit (.bool true)], args := [d1, d2, d3, d4] }
  | _ => none }
def fnCompareMatches128BitSubtractionRow : OpenClaim := { program := "qxb6630407a", sum := "108806e522bcd988ae5f906b79df5ba6cadfa0b88e6b6691ac89013a331a7b8e", func := "example.com/ledgerline/ledgerline/zzlaws_internal_stream_b1.FnCompareMatches128BitSubtraction", spec := "fnCompareMatches128BitSubtraction", apart := false }
def FnCompareMatches128BitSubtractionSaid : Prop := fnCompareMatches128BitSubtractionRow.holds Try.pinned (OpenSpec.ofChange fnCompareMatches128BitSubtractionSpec)

/-- ITS FALSE NEIGHBOUR: 'it returns false'. Refute it at one input. -/
def fnCompareMatches128BitSubtractionWrong : ChangeSpec := { name := "fnCompareMatches128BitSubtraction", fn := fun _ => fun
  | [d1, d2, d3, d4] => { results := [.lit (.bool false)], args := [d1, d2, d3, d4] }
  | _ => none }
def FnCompareMatches128BitSubtractionWrongFalsely : Prop := fnCompareMatches128BitSubtractionRow.holds Try.pinned (OpenSpec.ofChange fnCompareMatches128BitSubtractionWrong)

end Rows
end Go.Proofs.Qxb6630407a
