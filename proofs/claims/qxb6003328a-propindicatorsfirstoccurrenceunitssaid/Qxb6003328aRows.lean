/-
  No cell of these rows narrows 'for every input' (looked for: loops, veiled, ifaces, maps, wideKeys, modest, calm, conditions, laid).
  DERIVED. THE GIVEN ROWS OF THIS SEAT. 2 by the template 'for every input the law returns true; each argument reads behind the call as it read before'; 0 by the template 'total and deterministic' (their statements: Qxb6003328aTotals.lean).
  GIVEN WITH THE SEED: the statements are not yours to turn. If you find one false, say at which input.
  Laid BY PROGRAM, IN A SANDBOX (cutbox-rows.mjs): the forced cells as the released guide's own fill.sh prints them over the translation 7ed06c4598b81829… (all of the seat's roots in one cut). By AI agents, Wed Nov 11 2026. No macro, syntax, notation, axiom, sorry.
-/
import Derived.Test.Qxb6003328aChecked
import GoSem.Claim
import GoSem.ClaimJoined
import GoSem.ClaimMapViews
import Derived.JoinedTies
import Derived.KernelRfl
namespace Go.Proofs.Qxb6003328a
/- THE CELL 'sum', in the pinned program and in every row, IS THE sha256 OF THE DUMP (.gsa) THAT Qxb6003328aProg.lean LOADS. Nothing in Lean hashes anything: it is a label: what it is worth is what the hold of that sum in a sandbox is worth. -/
noncomputable def Try.pinned : Pinned := { name := "qxb6003328a", sum := "7ed06c4598b818291efa3ffed8c83588800259ceb29cb7bcc79791fcdcd5366f", checked := Try.checked }
namespace Rows
def none {H : Type} : Left H := { results := [], args := [] }

/-- 'zzlaws_internal_ledger_c1.PropSealUnsealInverse': WHATEVER THE INPUT: true; the input reads as it did. -/
def propSealUnsealInverseSpec : ChangeSpec := { name := "propSealUnsealInverse", fn := fun _ => fun
  | [d1, d2, d3] => { results := [.lit (.bool true)], args := [d1, d2, d3] }
  | _ => none }
def propSealUnsealInverseRow : OpenClaim := { program := "qxb6003328a", sum := "7ed06c4598b818291efa3ffed8c83588800259ceb29cb7bcc79791fcdcd5366f", func := "example.com/vestledger/vestledger/zzlaws_internal_ledger_c1.PropSealUnsealInverse", spec := "propSealUnsealInverse", unfollowed := true, recurses := true, apart := false }
def PropSealUnsealInverseSaid : Prop := propSealUnsealInverseRow.holds Try.pinned (OpenSpec.ofChange propSealUnsealInverseSpec)

/-- ITS FALSE NEIGHBOUR: 'it returns false'. Refute it at one input. -/
def propSealUnsealInverseWrong : ChangeSpec := { name := "propSealUnsealInverse", fn := fun _ => fun
  | [d1, d2, d3] => { results := [.lit (.bool false)], args := [d1, d2, d3] }
  | _ => none }
def PropSealUnsealInverseWrongFalsely : Prop := propSealUnsealInverseRow.holds Try.pinned (OpenSpec.ofChange propSealUnsealInverseWrong)

/-- 'zzlaws_internal_plan_c2.PropIndicatorsFirstOccurrenceUnits': WHATEVER THE INPUT: true; the input reads as it did. -/
def propIndicatorsFirstOccurrenceUnitsSpec : ChangeSpec := { name := "propIndicatorsFirstOccurrenceUnits", fn := fun _ => fun
  | [d1, d2, d3, d4, d5, d6, d7] => { results := [.lit (.bool true)], args := [d1, d2, d3, d4, d5, d6, d7] }
  | _ => none }
def propIndicatorsFirstOccurrenceUnitsRow : OpenClaim := { program := "qxb6003328a", sum := "7ed06c4598b818291efa3ffed8c83588800259ceb29cb7bcc79791fcdcd5366f", func := "example.com/vestledger/vestledger/zzlaws_internal_plan_c2.PropIndicatorsFirstOccurrenceUnits", spec := "propIndicatorsFirstOccurrenceUnits", unfollowed := true, recurses := true, apart := false }
def PropIndicatorsFirstOccurrenceUnitsSaid : Prop := propIndicatorsFirstOccurrenceUnitsRow.holds Try.pinned (OpenSpec.ofChange propIndicatorsFirstOccurrenceUnitsSpec)

/-- ITS FALSE NEIGHBOUR: 'it returns false'. Refute it at one input. -/
def propIndicatorsFirstOccurrenceUnitsWrong : ChangeSpec := { name := "propIndicatorsFirstOccurrenceUnits", fn := fun _ => fun
  | [d1, d2, d3, d4, d5, d6, d7] => { results := [.lit (.bool false)], args := [d1, d2, d3, d4, d5, d6, d7] }
  | _ => none }
def PropIndicatorsFirstOccurrenceUnitsWrongFalsely : Prop := propIndicatorsFirstOccurrenceUnitsRow.holds Try.pinned (OpenSpec.ofChange propIndicatorsFirstOccurrenceUnitsWrong)

end Rows
end Go.Proofs.Qxb6003328a
