/-
  DERIVED. GIVEN WITH THE SEED: THE CARDS: each row of Qxb6604672aFmtRows.lean that lists a variable, with what it lists TIED to the program's text (the seventh form; the later family's looks); each row that meets fmt, with fmt's text TOLD by the authors' own Lean function (tested against real Go, not proved from fmt's source: count such statements apart). THE CARD IS WHAT COUNTS. Prove the row's statement (the work); the ties are given (Qxb6604672aFmtTie.lean); close each card by the builder's one call (the guide's Derived/Test/ToyasCard.lean, 'card_holds'). Laid BY PROGRAM, IN A SANDBOX (cutbox-door.mjs). By AI agents, Wed Nov 11 2026. No macro, syntax, notation, axiom, sorry.
-/
import Derived.Test.Qxb6604672aFmtRows
import GoSem.ClaimSeven
namespace Go.Proofs.Qxb6604672aFmt
namespace Rows

/-- THE TOLD CARD OF 'zzlaws_pkg_odb_b1.FnIdTableVerifyOrderAcceptsExactlySortedCountedTables'. -/
def fnIdTableVerifyOrderAcceptsExactlySortedCountedTablesCard : Claim7 := { stood := { row := fnIdTableVerifyOrderAcceptsExactlySortedCountedTablesRow, standIns := [], harness := (true, "63efdbe14ee9dee0248d453c0be15f9c865ce2819727b9b9f5e18398fa9ba065"), looks := false }, told := true, goes := false }
def FnIdTableVerifyOrderAcceptsExactlySortedCountedTablesToldSaid : Prop := Claim7.holds Tryf.pinned (.plain (OpenSpec.ofChange fnIdTableVerifyOrderAcceptsExactlySortedCountedTablesSpec)) fnIdTableVerifyOrderAcceptsExactlySortedCountedTablesCard
/-- ITS FALSE NEIGHBOUR. Refute it at one input. -/
def FnIdTableVerifyOrderAcceptsExactlySortedCountedTablesToldWrongFalsely : Prop := Claim7.holds Tryf.pinned (.plain (OpenSpec.ofChange fnIdTableVerifyOrderAcceptsExactlySortedCountedTablesWrong)) fnIdTableVerifyOrderAcceptsExactlySortedCountedTablesCard

/-- THE TOLD CARD OF 'zzlaws_pkg_odb_b1.FnIdTableVerifyOrderRefusesTwoIDsSwapped'. -/
def fnIdTableVerifyOrderRefusesTwoIDsSwappedCard : Claim7 := { stood := { row := fnIdTableVerifyOrderRefusesTwoIDsSwappedRow, standIns := [], harness := (true, "63efdbe14ee9dee0248d453c0be15f9c865ce2819727b9b9f5e18398fa9ba065"), looks := false }, told := true, goes := false }
def FnIdTableVerifyOrderRefusesTwoIDsSwappedToldSaid : Prop := Claim7.holds Tryf.pinned (.plain (OpenSpec.ofChange fnIdTableVerifyOrderRefusesTwoIDsSwappedSpec)) fnIdTableVerifyOrderRefusesTwoIDsSwappedCard
/-- ITS FALSE NEIGHBOUR. Refute it at one input. -/
def FnIdTableVerifyOrderRefusesTwoIDsSwappedToldWrongFalsely : Prop := Claim7.holds Tryf.pinned (.plain (OpenSpec.ofChange fnIdTableVerifyOrderRefusesTwoIDsSwappedWrong)) fnIdTableVerifyOrderRefusesTwoIDsSwappedCard

/-- THE TOLD CARD OF 'zzlaws_pkg_odb_b1.FnFaultErrorIsItsCaseTable'. -/
def fnFaultErrorIsItsCaseTableCard : Claim7 := { stood := { row := fnFaultErrorIsItsCaseTableRow, standIns := [], harness := (true, "63efdbe14ee9dee0248d453c0be15f9c865ce2819727b9b9f5e18398fa9ba065"), looks := false }, told := true, goes := false }
def FnFaultErrorIsItsCaseTableToldSaid : Prop := Claim7.holds Tryf.pinned (.plain (OpenSpec.ofChange fnFaultErrorIsItsCaseTableSpec)) fnFaultErrorIsItsCaseTableCard
/-- ITS FALSE NEIGHBOUR. Refute it at one input. -/
def FnFaultErrorIsItsCaseTableToldWrongFalsely : Prop := Claim7.holds Tryf.pinned (.plain (OpenSpec.ofChange fnFaultErrorIsItsCaseTableWrong)) fnFaultErrorIsItsCaseTableCard

/-- THE TOLD CARD OF 'zzlaws_pkg_odb_b1.FnFaultErrorNamesTheObjectOnlyWherePacked'. -/
def fnFaultErrorNamesTheObjectOnlyWherePackedCard : Claim7 := { stood := { row := fnFaultErrorNamesTheObjectOnlyWherePackedRow, standIns := [], harness := (true, "63efdbe14ee9dee0248d453c0be15f9c865ce2819727b9b9f5e18398fa9ba065"), looks := false }, told := true, goes := false }
def FnFaultErrorNamesTheObjectOnlyWherePackedToldSaid : Prop := Claim7.holds Tryf.pinned (.plain (OpenSpec.ofChange fnFaultErrorNamesTheObjectOnlyWherePackedSpec)) fnFaultErrorNamesTheObjectOnlyWherePackedCard
/-- ITS FALSE NEIGHBOUR. Refute it at one input. -/
def FnFaultErrorNamesTheObjectOnlyWherePackedToldWrongFalsely : Prop := Claim7.holds Tryf.pinned (.plain (OpenSpec.ofChange fnFaultErrorNamesTheObjectOnlyWherePackedWrong)) fnFaultErrorNamesTheObjectOnlyWherePackedCard
end Rows
end Go.Proofs.Qxb6604672aFmt
