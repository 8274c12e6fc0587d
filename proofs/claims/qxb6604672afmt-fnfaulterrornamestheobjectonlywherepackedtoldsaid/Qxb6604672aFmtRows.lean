/-
  No cell of these rows narrows 'for every input' (looked for: loops, veiled, ifaces, maps, wideKeys, modest, calm, conditions, laid).
  DERIVED. THE GIVEN ROWS OF THIS SEAT. 4 by the template 'for every input the law returns true; each argument reads behind the call as it read before'; 0 by the template 'total and deterministic' (their statements: Qxb6604672aFmtTotals.lean).
  GIVEN WITH THE SEED: the statements are not yours to turn. If you find one false, say at which input.
  Laid BY PROGRAM, IN A SANDBOX (cutbox-rows.mjs): the forced cells as the released guide's own fill.sh prints them over the translation 767ac1d7a21ba482… (all of the seat's roots in one cut). By AI agents, Wed Nov 11 2026. No macro, syntax, notation, axiom, sorry.
-/
import Derived.Test.Qxb6604672aFmtChecked
import GoSem.Claim
import GoSem.ClaimJoined
import GoSem.ClaimMapViews
import Derived.JoinedTies
import Derived.KernelRfl
namespace Go.Proofs.Qxb6604672aFmt
/- THE CELL 'sum', in the pinned program and in every row, IS THE sha256 OF THE DUMP (.gsa) THAT Qxb6604672aFmtProg.lean LOADS. Nothing in Lean hashes anything: it is a label: what it is worth is what the hold of that sum in a sandbox is worth. -/
noncomputable def Tryf.pinned : Pinned := { name := "qxb6604672afmt", sum := "767ac1d7a21ba482239aabe04c17e96ec93cf0a46f52b3e178c194d24daf9f7a", checked := Tryf.checked }
namespace Rows
def none {H : Type} : Left H := { results := [], args := [] }

/-- 'zzlaws_pkg_odb_b1.FnIdTableVerifyOrderAcceptsExactlySortedCountedTables': WHATEVER THE INPUT: true; the input reads as it did. -/
def fnIdTableVerifyOrderAcceptsExactlySortedCountedTablesSpec : ChangeSpec := { name := "fnIdTableVerifyOrderAcceptsExactlySortedCountedTables", fn := fun _ => fun
  | [d1, d2, d3] => { results := [.lit (.bool true)], args := [d1, d2, d3] }
  | _ => none }
def fnIdTableVerifyOrderAcceptsExactlySortedCountedTablesRow : OpenClaim := { program := "qxb6604672afmt", sum := "767ac1d7a21ba482239aabe04c17e96ec93cf0a46f52b3e178c194d24daf9f7a", func := "example.com/plumbline/plumbline/zzlaws_pkg_odb_b1.FnIdTableVerifyOrderAcceptsExactlySortedCountedTables", spec := "fnIdTableVerifyOrderAcceptsExactlySortedCountedTables", stops := ["fmt.Sprintf, its operands' methods called", "fmt.errorf, its operands' methods called"], inPlace := ["fmt.errorf", "internal/bytealg.Compare"], unfollowed := true, recurses := true, named := ["encoding/binary.BigEndian"], apart := false }
/-- NO THEOREM (fmt's text is open here; it may be false): for the released tool's asking of the row's closed facts alone. THE STATEMENT IS 'FnIdTableVerifyOrderAcceptsExactlySortedCountedTablesToldSaid' (Qxb6604672aFmtCards.lean). -/
def FnIdTableVerifyOrderAcceptsExactlySortedCountedTablesFormAsk : Prop := fnIdTableVerifyOrderAcceptsExactlySortedCountedTablesRow.holds Tryf.pinned (OpenSpec.ofChange fnIdTableVerifyOrderAcceptsExactlySortedCountedTablesSpec)

/-- ITS FALSE NEIGHBOUR: 'it returns false'. Refute it at one input. -/
def fnIdTableVerifyOrderAcceptsExactlySortedCountedTablesWrong : ChangeSpec := { name := "fnIdTableVerifyOrderAcceptsExactlySortedCountedTables", fn := fun _ => fun
  | [d1, d2, d3] => { results := [.lit (.bool false)], args := [d1, d2, d3] }
  | _ => none }
def FnIdTableVerifyOrderAcceptsExactlySortedCountedTablesWrongFormAsk : Prop := fnIdTableVerifyOrderAcceptsExactlySortedCountedTablesRow.holds Tryf.pinned (OpenSpec.ofChange fnIdTableVerifyOrderAcceptsExactlySortedCountedTablesWrong)

/-- 'zzlaws_pkg_odb_b1.FnIdTableVerifyOrderRefusesTwoIDsSwapped': WHATEVER THE INPUT: true; the input reads as it did. -/
def fnIdTableVerifyOrderRefusesTwoIDsSwappedSpec : ChangeSpec := { name := "fnIdTableVerifyOrderRefusesTwoIDsSwapped", fn := fun _ => fun
  | [d1, d2, d3, d4, d5] => { results := [.lit (.bool true)], args := [d1, d2, d3, d4, d5] }
  | _ => none }
def fnIdTableVerifyOrderRefusesTwoIDsSwappedRow : OpenClaim := { program := "qxb6604672afmt", sum := "767ac1d7a21ba482239aabe04c17e96ec93cf0a46f52b3e178c194d24daf9f7a", func := "example.com/plumbline/plumbline/zzlaws_pkg_odb_b1.FnIdTableVerifyOrderRefusesTwoIDsSwapped", spec := "fnIdTableVerifyOrderRefusesTwoIDsSwapped", stops := ["fmt.Sprintf, its operands' methods called", "fmt.errorf, its operands' methods called"], inPlace := ["fmt.errorf", "internal/bytealg.Compare"], unfollowed := true, recurses := true, named := ["encoding/binary.BigEndian"], apart := false }
/-- NO THEOREM (fmt's text is open here; it may be false): for the released tool's asking of the row's closed facts alone. THE STATEMENT IS 'FnIdTableVerifyOrderRefusesTwoIDsSwappedToldSaid' (Qxb6604672aFmtCards.lean). -/
def FnIdTableVerifyOrderRefusesTwoIDsSwappedFormAsk : Prop := fnIdTableVerifyOrderRefusesTwoIDsSwappedRow.holds Tryf.pinned (OpenSpec.ofChange fnIdTableVerifyOrderRefusesTwoIDsSwappedSpec)

/-- ITS FALSE NEIGHBOUR: 'it returns false'. Refute it at one input. -/
def fnIdTableVerifyOrderRefusesTwoIDsSwappedWrong : ChangeSpec := { name := "fnIdTableVerifyOrderRefusesTwoIDsSwapped", fn := fun _ => fun
  | [d1, d2, d3, d4, d5] => { results := [.lit (.bool false)], args := [d1, d2, d3, d4, d5] }
  | _ => none }
def FnIdTableVerifyOrderRefusesTwoIDsSwappedWrongFormAsk : Prop := fnIdTableVerifyOrderRefusesTwoIDsSwappedRow.holds Tryf.pinned (OpenSpec.ofChange fnIdTableVerifyOrderRefusesTwoIDsSwappedWrong)

/-- 'zzlaws_pkg_odb_b1.FnFaultErrorIsItsCaseTable': WHATEVER THE INPUT: true; the input reads as it did. -/
def fnFaultErrorIsItsCaseTableSpec : ChangeSpec := { name := "fnFaultErrorIsItsCaseTable", fn := fun _ => fun
  | [d1, d2, d3, d4, d5] => { results := [.lit (.bool true)], args := [d1, d2, d3, d4, d5] }
  | _ => none }
def fnFaultErrorIsItsCaseTableRow : OpenClaim := { program := "qxb6604672afmt", sum := "767ac1d7a21ba482239aabe04c17e96ec93cf0a46f52b3e178c194d24daf9f7a", func := "example.com/plumbline/plumbline/zzlaws_pkg_odb_b1.FnFaultErrorIsItsCaseTable", spec := "fnFaultErrorIsItsCaseTable", stops := ["fmt.Sprintf, its operands' methods called", "fmt.errorf, its operands' methods called"], inPlace := ["fmt.Sprintf"], unfollowed := true, recurses := true, apart := false }
/-- NO THEOREM (fmt's text is open here; it may be false): for the released tool's asking of the row's closed facts alone. THE STATEMENT IS 'FnFaultErrorIsItsCaseTableToldSaid' (Qxb6604672aFmtCards.lean). -/
def FnFaultErrorIsItsCaseTableFormAsk : Prop := fnFaultErrorIsItsCaseTableRow.holds Tryf.pinned (OpenSpec.ofChange fnFaultErrorIsItsCaseTableSpec)

/-- ITS FALSE NEIGHBOUR: 'it returns false'. Refute it at one input. -/
def fnFaultErrorIsItsCaseTableWrong : ChangeSpec := { name := "fnFaultErrorIsItsCaseTable", fn := fun _ => fun
  | [d1, d2, d3, d4, d5] => { results := [.lit (.bool false)], args := [d1, d2, d3, d4, d5] }
  | _ => none }
def FnFaultErrorIsItsCaseTableWrongFormAsk : Prop := fnFaultErrorIsItsCaseTableRow.holds Tryf.pinned (OpenSpec.ofChange fnFaultErrorIsItsCaseTableWrong)

/-- 'zzlaws_pkg_odb_b1.FnFaultErrorNamesTheObjectOnlyWherePacked': WHATEVER THE INPUT: true; the input reads as it did. -/
def fnFaultErrorNamesTheObjectOnlyWherePackedSpec : ChangeSpec := { name := "fnFaultErrorNamesTheObjectOnlyWherePacked", fn := fun _ => fun
  | [d1, d2, d3, d4, d5] => { results := [.lit (.bool true)], args := [d1, d2, d3, d4, d5] }
  | _ => none }
def fnFaultErrorNamesTheObjectOnlyWherePackedRow : OpenClaim := { program := "qxb6604672afmt", sum := "767ac1d7a21ba482239aabe04c17e96ec93cf0a46f52b3e178c194d24daf9f7a", func := "example.com/plumbline/plumbline/zzlaws_pkg_odb_b1.FnFaultErrorNamesTheObjectOnlyWherePacked", spec := "fnFaultErrorNamesTheObjectOnlyWherePacked", stops := ["fmt.Sprintf, its operands' methods called", "fmt.errorf, its operands' methods called"], inPlace := ["fmt.Sprintf"], unfollowed := true, recurses := true, apart := false }
/-- NO THEOREM (fmt's text is open here; it may be false): for the released tool's asking of the row's closed facts alone. THE STATEMENT IS 'FnFaultErrorNamesTheObjectOnlyWherePackedToldSaid' (Qxb6604672aFmtCards.lean). -/
def FnFaultErrorNamesTheObjectOnlyWherePackedFormAsk : Prop := fnFaultErrorNamesTheObjectOnlyWherePackedRow.holds Tryf.pinned (OpenSpec.ofChange fnFaultErrorNamesTheObjectOnlyWherePackedSpec)

/-- ITS FALSE NEIGHBOUR: 'it returns false'. Refute it at one input. -/
def fnFaultErrorNamesTheObjectOnlyWherePackedWrong : ChangeSpec := { name := "fnFaultErrorNamesTheObjectOnlyWherePacked", fn := fun _ => fun
  | [d1, d2, d3, d4, d5] => { results := [.lit (.bool false)], args := [d1, d2, d3, d4, d5] }
  | _ => none }
def FnFaultErrorNamesTheObjectOnlyWherePackedWrongFormAsk : Prop := fnFaultErrorNamesTheObjectOnlyWherePackedRow.holds Tryf.pinned (OpenSpec.ofChange fnFaultErrorNamesTheObjectOnlyWherePackedWrong)

end Rows
end Go.Proofs.Qxb6604672aFmt
