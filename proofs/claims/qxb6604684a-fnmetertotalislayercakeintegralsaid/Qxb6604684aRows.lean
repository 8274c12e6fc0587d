/-
  No cell of these rows narrows 'for every input' (looked for: loops, veiled, ifaces, maps, wideKeys, modest, calm, conditions, laid).
  DERIVED. THE GIVEN ROWS OF THIS SEAT. 1 by the template 'for every input the law returns true; each argument reads behind the call as it read before'; 0 by the template 'total and deterministic' (their statements: Qxb6604684aTotals.lean).
  GIVEN WITH THE SEED: the statements are not yours to turn. If you find one false, say at which input.
  Laid BY PROGRAM, IN A SANDBOX (cutbox-rows.mjs): the forced cells as the released guide's own fill.sh prints them over the translation 39081bb5aeb31f36… (all of the seat's roots in one cut). By AI agents, Wed Nov 11 2026. No macro, syntax, notation, axiom, sorry.
-/
import Derived.Test.Qxb6604684aChecked
import GoSem.Claim
import GoSem.ClaimJoined
import GoSem.ClaimMapViews
import Derived.JoinedTies
import Derived.KernelRfl
namespace Go.Proofs.Qxb6604684a
/- THE CELL 'sum', in the pinned program and in every row, IS THE sha256 OF THE DUMP (.gsa) THAT Qxb6604684aProg.lean LOADS. Nothing in Lean hashes anything: it is a label: what it is worth is what the hold of that sum in a sandbox is worth. -/
noncomputable def Try.pinned : Pinned := { name := "qxb6604684a", sum := "39081bb5aeb31f3610e438247f13870af03e542cc9c31c6c5fa4745055aa38aa", checked := Try.checked }
namespace Rows
def none {H : Type} : Left H := { results := [], args := [] }

/-- 'zzlaws_pkg_sim_b1.FnMeterTotalIsLayerCakeIntegral': WHATEVER THE INPUT: true; the input reads as it did. -/
def fnMeterTotalIsLayerCakeIntegralSpec : ChangeSpec := { name := "fnMeterTotalIsLayerCakeIntegral", fn := fun _ => fun
  | [d1, d2] => { results := [.lit (.bool true)], args := [d1, d2] }
  | _ => none }
def fnMeterTotalIsLayerCakeIntegralRow : OpenClaim := { program := "qxb6604684a", sum := "39081bb5aeb31f3610e438247f13870af03e542cc9c31c6c5fa4745055aa38aa", func := "example.com/interlace/interlace/zzlaws_pkg_sim_b1.FnMeterTotalIsLayerCakeIntegral", spec := "fnMeterTotalIsLayerCakeIntegral", apart := false }
def FnMeterTotalIsLayerCakeIntegralSaid : Prop := fnMeterTotalIsLayerCakeIntegralRow.holds Try.pinned (OpenSpec.ofChange fnMeterTotalIsLayerCakeIntegralSpec)

/-- ITS FALSE NEIGHBOUR: 'it returns false'. Refute it at one input. -/
def fnMeterTotalIsLayerCakeIntegralWrong : ChangeSpec := { name := "fnMeterTotalIsLayerCakeIntegral", fn := fun _ => fun
  | [d1, d2] => { results := [.lit (.bool false)], args := [d1, d2] }
  | _ => none }
def FnMeterTotalIsLayerCakeIntegralWrongFalsely : Prop := fnMeterTotalIsLayerCakeIntegralRow.holds Try.pinned (OpenSpec.ofChange fnMeterTotalIsLayerCakeIntegralWrong)

end Rows
end Go.Proofs.Qxb6604684a
