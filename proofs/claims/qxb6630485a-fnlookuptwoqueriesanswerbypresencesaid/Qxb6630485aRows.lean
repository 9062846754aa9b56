/-
  No cell of these rows narrows 'for every input' (looked for: loops, veiled, ifaces, maps, wideKeys, modest, calm, conditions, laid).
  DERIVED. THE GIVEN ROWS OF THIS SEAT. 2 by the template 'for every input the law returns true; each argument reads behind the call as it read before'; 0 by the template 'total and deterministic' (their statements: Qxb6630485aTotals.lean).
  GIVEN WITH THE SEED: the statements are not yours to turn. If you find one false, say at which input.
  Laid BY PROGRAM, IN A SANDBOX (cutbox-rows.mjs): the forced cells as the released guide's own fill.sh prints them over the translation 4ba50342fee4e61b… (all of the seat's roots in one cut). By AI agents, Wed Nov 11 2026. No macro, syntax, notation, axiom, sorry.
-/
import Derived.Test.Qxb6630485aChecked
import GoSem.Claim
import GoSem.ClaimJoined
import GoSem.ClaimMapViews
import Derived.JoinedTies
import Derived.KernelRfl
namespace Go.Proofs.Qxb6630485a
/- THE CELL 'sum', in the pinned program and in every row, IS THE sha256 OF THE DUMP (.gsa) THAT Qxb6630485aProg.lean LOADS. Nothing in Lean hashes anything: it is a label: what it is worth is what the hold of that sum in a sandbox is worth. -/
noncomputable def Try.pinned : Pinned := { name := "qxb6630485a", sum := "4ba50342fee4e61be637e00654a3588ad87e877f6bcfe1d2b6c68221d8b7c23b", checked := Try.checked }
namespace Rows
def none {H : Type} : Left H := { results := [], args := [] }

/-- 'zzlaws_internal_crawler_b1.FnLookupFindsEveryEntryAtItsPlace': WHATEVER THE INPUT: true; the input reads as it did. -/
def fnLookupFindsEveryEntryAtItsPlaceSpec : ChangeSpec := { name := "fnLookupFindsEveryEntryAtItsPlace", fn := fun _ => fun
  | [d] => { results := [.lit (.bool true)], args := [d] }
  | _ => none }
def fnLookupFindsEveryEntryAtItsPlaceRow : OpenClaim := { program := "qxb6630485a", sum := "4ba50342fee4e61be637e00654a3588ad87e877f6bcfe1d2b6c68221d8b7c23b", func := "example.com/hedgerow/hedgerow/zzlaws_internal_crawler_b1.FnLookupFindsEveryEntryAtItsPlace", spec := "fnLookupFindsEveryEntryAtItsPlace", apart := false }
def FnLookupFindsEveryEntryAtItsPlaceSaid : Prop := fnLookupFindsEveryEntryAtItsPlaceRow.holds Try.pinned (OpenSpec.ofChange fnLookupFindsEveryEntryAtItsPlaceSpec)

/-- ITS FALSE NEIGHBOUR: 'it returns false'. Refute it at one input. -/
def fnLookupFindsEveryEntryAtItsPlaceWrong : ChangeSpec := { name := "fnLookupFindsEveryEntryAtItsPlace", fn := fun _ => fun
  | [d] => { results := [.lit (.bool false)], args := [d] }
  | _ => none }
def FnLookupFindsEveryEntryAtItsPlaceWrongFalsely : Prop := fnLookupFindsEveryEntryAtItsPlaceRow.holds Try.pinned (OpenSpec.ofChange fnLookupFindsEveryEntryAtItsPlaceWrong)

/-- 'zzlaws_internal_crawler_b1.FnLookupTwoQueriesAnswerByPresence': WHATEVER THE INPUT: true; the input reads as it did. -/
def fnLookupTwoQueriesAnswerByPresenceSpec : ChangeSpec := { name := "fnLookupTwoQueriesAnswerByPresence", fn := fun _ => fun
  | [d1, d2, d3] => { results := [.lit (.bool true)], args := [d1, d2, d3] }
  | _ => none }
def fnLookupTwoQueriesAnswerByPresenceRow : OpenClaim := { program := "qxb6630485a", sum := "4ba50342fee4e61be637e00654a3588ad87e877f6bcfe1d2b6c68221d8b7c23b", func := "example.com/hedgerow/hedgerow/zzlaws_internal_crawler_b1.FnLookupTwoQueriesAnswerByPresence", spec := "fnLookupTwoQueriesAnswerByPresence", apart := false }
def FnLookupTwoQueriesAnswerByPresenceSaid : Prop := fnLookupTwoQueriesAnswerByPresenceRow.holds Try.pinned (OpenSpec.ofChange fnLookupTwoQueriesAnswerByPresenceSpec)

/-- ITS FALSE NEIGHBOUR: 'it returns false'. Refute it at one input. -/
def fnLookupTwoQueriesAnswerByPresenceWrong : ChangeSpec := { name := "fnLookupTwoQueriesAnswerByPresence", fn := fun _ => fun
  | [d1, d2, d3] => { results := [.lit (.bool false)], args := [d1, d2, d3] }
  | _ => none }
def FnLookupTwoQueriesAnswerByPresenceWrongFalsely : Prop := fnLookupTwoQueriesAnswerByPresenceRow.holds Try.pinned (OpenSpec.ofChange fnLookupTwoQueriesAnswerByPresenceWrong)

end Rows
end Go.Proofs.Qxb6630485a
