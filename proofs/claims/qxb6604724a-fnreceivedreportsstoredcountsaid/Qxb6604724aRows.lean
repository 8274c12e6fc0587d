/-
  No cell of these rows narrows 'for every input' (looked for: loops, veiled, ifaces, maps, wideKeys, modest, calm, conditions, laid).
  DERIVED. THE GIVEN ROWS OF THIS SEAT. 3 by the template 'for every input the law returns true; each argument reads behind the call as it read before'; 0 by the template 'total and deterministic' (their statements: Qxb6604724aTotals.lean).
  GIVEN WITH THE SEED: the statements are not yours to turn. If you find one false, say at which input.
  Laid BY PROGRAM, IN A SANDBOX (cutbox-rows.mjs): the forced cells as the released guide's own fill.sh prints them over the translation 96e3c9b6a2fd427f… (all of the seat's roots in one cut). By AI agents, Wed Nov 11 2026. No macro, syntax, notation, axiom, sorry.
-/
import Derived.Test.Qxb6604724aChecked
import GoSem.Claim
import GoSem.ClaimJoined
import GoSem.ClaimMapViews
import Derived.JoinedTies
import Derived.KernelRfl
namespace Go.Proofs.Qxb6604724a
/- THE CELL 'sum', in the pinned program and in every row, IS THE sha256 OF THE DUMP (.gsa) THAT Qxb6604724aProg.lean LOADS. Nothing in Lean hashes anything: it is a label: what it is worth is what the hold of that sum in a sandbox is worth. -/
noncomputable def Try.pinned : Pinned := { name := "qxb6604724a", sum := "96e3c9b6a2fd427f4abdd81837cd4ea38c98b1ccbbf767a16737e4ba80f526e7", checked := Try.checked }
namespace Rows
def none {H : Type} : Left H := { results := [], args := [] }

/-- 'zzlaws_internal_chattest_b1.FnToolReplySplicesCallIntoEmptyReply': WHATEVER THE INPUT: true; the input reads as it did. -/
def fnToolReplySplicesCallIntoEmptyReplySpec : ChangeSpec := { name := "fnToolReplySplicesCallIntoEmptyReply", fn := fun _ => fun
  | [d] => { results := [.lit (.bool true)], args := [d] }
  | _ => none }
def fnToolReplySplicesCallIntoEmptyReplyRow : OpenClaim := { program := "qxb6604724a", sum := "96e3c9b6a2fd427f4abdd81837cd4ea38c98b1ccbbf767a16737e4ba80f526e7", func := "example.com/baton/baton/zzlaws_internal_chattest_b1.FnToolReplySplicesCallIntoEmptyReply", spec := "fnToolReplySplicesCallIntoEmptyReply", apart := false }
def FnToolReplySplicesCallIntoEmptyReplySaid : Prop := fnToolReplySplicesCallIntoEmptyReplyRow.holds Try.pinned (OpenSpec.ofChange fnToolReplySplicesCallIntoEmptyReplySpec)

/-- ITS FALSE NEIGHBOUR: 'it returns false'. Refute it at one input. -/
def fnToolReplySplicesCallIntoEmptyReplyWrong : ChangeSpec := { name := "fnToolReplySplicesCallIntoEmptyReply", fn := fun _ => fun
  | [d] => { results := [.lit (.bool false)], args := [d] }
  | _ => none }
def FnToolReplySplicesCallIntoEmptyReplyWrongFalsely : Prop := fnToolReplySplicesCallIntoEmptyReplyRow.holds Try.pinned (OpenSpec.ofChange fnToolReplySplicesCallIntoEmptyReplyWrong)

/-- 'zzlaws_internal_chattest_b1.FnToolReplyIsInjectiveWithFixedOverhead': WHATEVER THE INPUT: true; the input reads as it did. -/
def fnToolReplyIsInjectiveWithFixedOverheadSpec : ChangeSpec := { name := "fnToolReplyIsInjectiveWithFixedOverhead", fn := fun _ => fun
  | [d1, d2] => { results := [.lit (.bool true)], args := [d1, d2] }
  | _ => none }
def fnToolReplyIsInjectiveWithFixedOverheadRow : OpenClaim := { program := "qxb6604724a", sum := "96e3c9b6a2fd427f4abdd81837cd4ea38c98b1ccbbf767a16737e4ba80f526e7", func := "example.com/baton/baton/zzlaws_internal_chattest_b1.FnToolReplyIsInjectiveWithFixedOverhead", spec := "fnToolReplyIsInjectiveWithFixedOverhead", apart := false }
def FnToolReplyIsInjectiveWithFixedOverheadSaid : Prop := fnToolReplyIsInjectiveWithFixedOverheadRow.holds Try.pinned (OpenSpec.ofChange fnToolReplyIsInjectiveWithFixedOverheadSpec)

/-- ITS FALSE NEIGHBOUR: 'it returns false'. Refute it at one input. -/
def fnToolReplyIsInjectiveWithFixedOverheadWrong : ChangeSpec := { name := "fnToolReplyIsInjectiveWithFixedOverhead", fn := fun _ => fun
  | [d1, d2] => { results := [.lit (.bool false)], args := [d1, d2] }
  | _ => none }
def FnToolReplyIsInjectiveWithFixedOverheadWrongFalsely : Prop := fnToolReplyIsInjectiveWithFixedOverheadRow.holds Try.pinned (OpenSpec.ofChange fnToolReplyIsInjectiveWithFixedOverheadWrong)

/-- 'zzlaws_internal_chattest_b1.FnReceivedReportsStoredCount': WHATEVER THE INPUT: true; the input reads as it did. -/
def fnReceivedReportsStoredCountSpec : ChangeSpec := { name := "fnReceivedReportsStoredCount", fn := fun _ => fun
  | [d1, d2, d3] => { results := [.lit (.bool true)], args := [d1, d2, d3] }
  | _ => none }
def fnReceivedReportsStoredCountRow : OpenClaim := { program := "qxb6604724a", sum := "96e3c9b6a2fd427f4abdd81837cd4ea38c98b1ccbbf767a16737e4ba80f526e7", func := "example.com/baton/baton/zzlaws_internal_chattest_b1.FnReceivedReportsStoredCount", spec := "fnReceivedReportsStoredCount", inPlace := ["sync/atomic.StoreInt64", "sync/atomic.LoadInt64"], apart := false }
def FnReceivedReportsStoredCountSaid : Prop := fnReceivedReportsStoredCountRow.holds Try.pinned (OpenSpec.ofChange fnReceivedReportsStoredCountSpec)

/-- ITS FALSE NEIGHBOUR: 'it returns false'. Refute it at one input. -/
def fnReceivedReportsStoredCountWrong : ChangeSpec := { name := "fnReceivedReportsStoredCount", fn := fun _ => fun
  | [d1, d2, d3] => { results := [.lit (.bool false)], args := [d1, d2, d3] }
  | _ => none }
def FnReceivedReportsStoredCountWrongFalsely : Prop := fnReceivedReportsStoredCountRow.holds Try.pinned (OpenSpec.ofChange fnReceivedReportsStoredCountWrong)

end Rows
end Go.Proofs.Qxb6604724a
