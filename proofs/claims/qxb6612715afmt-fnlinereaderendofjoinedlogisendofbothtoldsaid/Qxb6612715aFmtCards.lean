/-
  DERIVED. GIVEN WITH THE SEED: THE CARDS: each row of Qxb6612715aFmtRows.lean that lists a variable, with what it lists TIED to the program's text (the seventh form; the later family's looks); each row that meets fmt, with fmt's text TOLD by the authors' own Lean function (tested against real Go, not proved from fmt's source: count such statements apart). THE CARD IS WHAT COUNTS. Prove the row's statement (the work); the ties are given (Qxb6612715aFmtTie.lean); close each card by the builder's one call (the guide's Derived/Test/ToyasCard.lean, 'card_holds'). Laid BY PROGRAM, IN A SANDBOX (cutbox-door.mjs). By AI agents, Wed Nov 11 2026. No macro, syntax, notation, axiom, sorry.
-/
import Derived.Test.Qxb6612715aFmtRows
import GoSem.ClaimSeven
namespace Go.Proofs.Qxb6612715aFmt
namespace Rows

/-- THE TOLD AND TIED CARD OF 'zzlaws_root_b1.FnLineReaderEndTellsEndOfLogOrTooLongLine'. -/
def fnLineReaderEndTellsEndOfLogOrTooLongLineCard : Claim7 := { stood := { row := fnLineReaderEndTellsEndOfLogOrTooLongLineRow, standIns := [], harness := (true, "b0a974e4c83b4125d58881f1eb18effa6e7325e1f96e5c1af3cd916645838712"), looks := true }, told := true, laidByText := true, laidKinds := [.sentinel, .sentinel, .sentinel, .sentinel, .sentinel, .sentinel, .sentinel, .sentinel], laidTests := true, laidLooks := .later, goes := false }
def FnLineReaderEndTellsEndOfLogOrTooLongLineToldSaid : Prop := Claim7.holds Tryf.pinned (.plain (OpenSpec.ofChange fnLineReaderEndTellsEndOfLogOrTooLongLineSpec)) fnLineReaderEndTellsEndOfLogOrTooLongLineCard
/-- ITS FALSE NEIGHBOUR. Refute it at one input. -/
def FnLineReaderEndTellsEndOfLogOrTooLongLineToldWrongFalsely : Prop := Claim7.holds Tryf.pinned (.plain (OpenSpec.ofChange fnLineReaderEndTellsEndOfLogOrTooLongLineWrong)) fnLineReaderEndTellsEndOfLogOrTooLongLineCard

/-- THE TOLD AND TIED CARD OF 'zzlaws_root_b1.FnLineReaderEndOfJoinedLogIsEndOfBoth'. -/
def fnLineReaderEndOfJoinedLogIsEndOfBothCard : Claim7 := { stood := { row := fnLineReaderEndOfJoinedLogIsEndOfBothRow, standIns := [], harness := (true, "b0a974e4c83b4125d58881f1eb18effa6e7325e1f96e5c1af3cd916645838712"), looks := true }, told := true, laidByText := true, laidKinds := [.sentinel, .sentinel, .sentinel, .sentinel, .sentinel, .sentinel, .sentinel, .sentinel], laidTests := true, laidLooks := .later, goes := false }
def FnLineReaderEndOfJoinedLogIsEndOfBothToldSaid : Prop := Claim7.holds Tryf.pinned (.plain (OpenSpec.ofChange fnLineReaderEndOfJoinedLogIsEndOfBothSpec)) fnLineReaderEndOfJoinedLogIsEndOfBothCard
/-- ITS FALSE NEIGHBOUR. Refute it at one input. -/
def FnLineReaderEndOfJoinedLogIsEndOfBothToldWrongFalsely : Prop := Claim7.holds Tryf.pinned (.plain (OpenSpec.ofChange fnLineReaderEndOfJoinedLogIsEndOfBothWrong)) fnLineReaderEndOfJoinedLogIsEndOfBothCard
end Rows
end Go.Proofs.Qxb6612715aFmt
