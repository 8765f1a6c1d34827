/-
  DERIVED. GIVEN WITH THE SEED: THE CARDS: each row of Qxb6613816aFmtRows.lean that lists a variable, with what it lists TIED to the program's text (the seventh form; the later family's looks); each row that meets fmt, with fmt's text TOLD by the authors' own Lean function (tested against real Go, not proved from fmt's source: count such statements apart). THE CARD IS WHAT COUNTS. Prove the row's statement (the work); the ties are given (Qxb6613816aFmtTie.lean); close each card by the builder's one call (the guide's Derived/Test/ToyasCard.lean, 'card_holds'). Laid BY PROGRAM, IN A SANDBOX (cutbox-door.mjs). By AI agents, Wed Nov 11 2026. No macro, syntax, notation, axiom, sorry.
-/
import Derived.Test.Qxb6613816aFmtRows
import GoSem.ClaimSeven
namespace Go.Proofs.Qxb6613816aFmt
namespace Rows

/-- THE TOLD AND TIED CARD OF 'zzlaws_internal_statement_b1.FnMysqlTokensJoinAtNewline'. -/
def fnMysqlTokensJoinAtNewlineCard : Claim7 := { stood := { row := fnMysqlTokensJoinAtNewlineRow, standIns := [], harness := (true, "52ea83fd1aa3b740a3466f3591cf55a9cf8a5b5faf8361c7c5bb82469e44eb48"), looks := true }, told := true, laidByText := true, laidKinds := [.data, .data, .data, .sentinel, .sentinel], laidTests := true, laidLooks := .later, goes := false }
def FnMysqlTokensJoinAtNewlineToldSaid : Prop := Claim7.holds Tryf.pinned (.plain (OpenSpec.ofChange fnMysqlTokensJoinAtNewlineSpec)) fnMysqlTokensJoinAtNewlineCard
/-- ITS FALSE NEIGHBOUR. Refute it at one input. -/
def FnMysqlTokensJoinAtNewlineToldWrongFalsely : Prop := Claim7.holds Tryf.pinned (.plain (OpenSpec.ofChange fnMysqlTokensJoinAtNewlineWrong)) fnMysqlTokensJoinAtNewlineCard

/-- THE TOLD AND TIED CARD OF 'zzlaws_internal_statement_b1.FnMysqlTokensRefusals'. -/
def fnMysqlTokensRefusalsCard : Claim7 := { stood := { row := fnMysqlTokensRefusalsRow, standIns := [], harness := (true, "52ea83fd1aa3b740a3466f3591cf55a9cf8a5b5faf8361c7c5bb82469e44eb48"), looks := true }, told := true, laidByText := true, laidKinds := [.data, .data, .data, .sentinel, .sentinel], laidTests := true, laidLooks := .later, goes := false }
def FnMysqlTokensRefusalsToldSaid : Prop := Claim7.holds Tryf.pinned (.plain (OpenSpec.ofChange fnMysqlTokensRefusalsSpec)) fnMysqlTokensRefusalsCard
/-- ITS FALSE NEIGHBOUR. Refute it at one input. -/
def FnMysqlTokensRefusalsToldWrongFalsely : Prop := Claim7.holds Tryf.pinned (.plain (OpenSpec.ofChange fnMysqlTokensRefusalsWrong)) fnMysqlTokensRefusalsCard

/-- THE TOLD CARD OF 'zzlaws_internal_statement_b1.FnSqliteTokenKeepsItsLength'. -/
def fnSqliteTokenKeepsItsLengthCard : Claim7 := { stood := { row := fnSqliteTokenKeepsItsLengthRow, standIns := [], harness := (true, "52ea83fd1aa3b740a3466f3591cf55a9cf8a5b5faf8361c7c5bb82469e44eb48"), looks := true }, told := true, goes := false }
def FnSqliteTokenKeepsItsLengthToldSaid : Prop := Claim7.holds Tryf.pinned (.plain (OpenSpec.ofChange fnSqliteTokenKeepsItsLengthSpec)) fnSqliteTokenKeepsItsLengthCard
/-- ITS FALSE NEIGHBOUR. Refute it at one input. -/
def FnSqliteTokenKeepsItsLengthToldWrongFalsely : Prop := Claim7.holds Tryf.pinned (.plain (OpenSpec.ofChange fnSqliteTokenKeepsItsLengthWrong)) fnSqliteTokenKeepsItsLengthCard

/-- THE TOLD AND TIED CARD OF 'zzlaws_internal_statement_b1.FnSqliteTokenAgreesWithMysqlOnNamesAndNumbers'. -/
def fnSqliteTokenAgreesWithMysqlOnNamesAndNumbersCard : Claim7 := { stood := { row := fnSqliteTokenAgreesWithMysqlOnNamesAndNumbersRow, standIns := [], harness := (true, "52ea83fd1aa3b740a3466f3591cf55a9cf8a5b5faf8361c7c5bb82469e44eb48"), looks := true }, told := true, laidByText := true, laidKinds := [.data, .data, .data, .sentinel, .sentinel], laidTests := true, laidLooks := .later, goes := false }
def FnSqliteTokenAgreesWithMysqlOnNamesAndNumbersToldSaid : Prop := Claim7.holds Tryf.pinned (.plain (OpenSpec.ofChange fnSqliteTokenAgreesWithMysqlOnNamesAndNumbersSpec)) fnSqliteTokenAgreesWithMysqlOnNamesAndNumbersCard
/-- ITS FALSE NEIGHBOUR. Refute it at one input. -/
def FnSqliteTokenAgreesWithMysqlOnNamesAndNumbersToldWrongFalsely : Prop := Claim7.holds Tryf.pinned (.plain (OpenSpec.ofChange fnSqliteTokenAgreesWithMysqlOnNamesAndNumbersWrong)) fnSqliteTokenAgreesWithMysqlOnNamesAndNumbersCard
end Rows
end Go.Proofs.Qxb6613816aFmt
