/-
  NARROWER THAN 'FOR EVERY INPUT', by the rows' own cells (each row's printed sentence says how): FnLineReaderEndTellsEndOfLogOrTooLongLine: ifaces, laid · FnLineReaderEndOfJoinedLogIsEndOfBoth: ifaces, laid.
  DERIVED. THE GIVEN ROWS OF THIS SEAT. 2 by the template 'for every input the law returns true; each argument reads behind the call as it read before'; 0 by the template 'total and deterministic' (their statements: Qxb6612715aFmtTotals.lean).
  GIVEN WITH THE SEED: the statements are not yours to turn. If you find one false, say at which input.
  Laid BY PROGRAM, IN A SANDBOX (cutbox-rows.mjs): the forced cells as the released guide's own fill.sh prints them over the translation 34ce9d968b7fc9b2… (all of the seat's roots in one cut). By AI agents, Wed Nov 11 2026. No macro, syntax, notation, axiom, sorry.
-/
import Derived.Test.Qxb6612715aFmtChecked
import GoSem.Claim
import GoSem.ClaimJoined
import GoSem.ClaimMapViews
import Derived.JoinedTies
import Derived.KernelRfl
namespace Go.Proofs.Qxb6612715aFmt
/- THE CELL 'sum', in the pinned program and in every row, IS THE sha256 OF THE DUMP (.gsa) THAT Qxb6612715aFmtProg.lean LOADS. Nothing in Lean hashes anything: it is a label: what it is worth is what the hold of that sum in a sandbox is worth. -/
noncomputable def Tryf.pinned : Pinned := { name := "qxb6612715afmt", sum := "34ce9d968b7fc9b2ee0113f8686ed8077352726f19f30fd3f56efb8e78b57ed2", checked := Tryf.checked }
namespace Rows
def none {H : Type} : Left H := { results := [], args := [] }

/- WHAT THE LISTED PACKAGE-LEVEL VARIABLES READ AS WHEN THE CALL BEGINS. Each datum BY PROGRAM (the guide's laid-datum.mjs) off the statement by which the dump's own 'gosem.cut.vars' lays the variable. In a bare row this is a premise. The card (Qxb6612715aFmtCards.lean) ties it to the program's text. -/
def laid_io_EOF {H : Type} : DataW H := .iface "*errors.errorString" (.ptr (.agg [.lit (.string [69, 79, 70])]))
def laid_io_ErrNoProgress {H : Type} : DataW H := .iface "*errors.errorString" (.ptr (.agg [.lit (.string [109, 117, 108, 116, 105, 112, 108, 101, 32, 82, 101, 97, 100, 32, 99, 97, 108, 108, 115, 32, 114, 101, 116, 117, 114, 110, 32, 110, 111, 32, 100, 97, 116, 97, 32, 111, 114, 32, 101, 114, 114, 111, 114])]))
def laid_bufio_ErrTooLong {H : Type} : DataW H := .iface "*errors.errorString" (.ptr (.agg [.lit (.string [98, 117, 102, 105, 111, 46, 83, 99, 97, 110, 110, 101, 114, 58, 32, 116, 111, 107, 101, 110, 32, 116, 111, 111, 32, 108, 111, 110, 103])]))
def laid_bufio_ErrNegativeAdvance {H : Type} : DataW H := .iface "*errors.errorString" (.ptr (.agg [.lit (.string [98, 117, 102, 105, 111, 46, 83, 99, 97, 110, 110, 101, 114, 58, 32, 83, 112, 108, 105, 116, 70, 117, 110, 99, 32, 114, 101, 116, 117, 114, 110, 115, 32, 110, 101, 103, 97, 116, 105, 118, 101, 32, 97, 100, 118, 97, 110, 99, 101, 32, 99, 111, 117, 110, 116])]))
def laid_bufio_ErrAdvanceTooFar {H : Type} : DataW H := .iface "*errors.errorString" (.ptr (.agg [.lit (.string [98, 117, 102, 105, 111, 46, 83, 99, 97, 110, 110, 101, 114, 58, 32, 83, 112, 108, 105, 116, 70, 117, 110, 99, 32, 114, 101, 116, 117, 114, 110, 115, 32, 97, 100, 118, 97, 110, 99, 101, 32, 99, 111, 117, 110, 116, 32, 98, 101, 121, 111, 110, 100, 32, 105, 110, 112, 117, 116])]))
def laid_bufio_ErrBadReadCount {H : Type} : DataW H := .iface "*errors.errorString" (.ptr (.agg [.lit (.string [98, 117, 102, 105, 111, 46, 83, 99, 97, 110, 110, 101, 114, 58, 32, 82, 101, 97, 100, 32, 114, 101, 116, 117, 114, 110, 101, 100, 32, 105, 109, 112, 111, 115, 115, 105, 98, 108, 101, 32, 99, 111, 117, 110, 116])]))
def laid_bufio_ErrFinalToken {H : Type} : DataW H := .iface "*errors.errorString" (.ptr (.agg [.lit (.string [102, 105, 110, 97, 108, 32, 116, 111, 107, 101, 110])]))
def laid_example_com_antecede_antecede_errNoLog {H : Type} : DataW H := .iface "*errors.errorString" (.ptr (.agg [.lit (.string [97, 110, 116, 101, 99, 101, 100, 101, 58, 32, 114, 101, 97, 100, 105, 110, 103, 32, 97, 32, 108, 111, 103, 58, 32, 116, 104, 101, 32, 114, 101, 97, 100, 101, 114, 32, 104, 97, 115, 32, 110, 111, 110, 101, 58, 32, 110, 111, 32, 99, 111, 110, 115, 116, 114, 117, 99, 116, 111, 114, 32, 109, 97, 100, 101, 32, 105, 116, 32, 111, 114, 32, 105, 116, 32, 119, 97, 115, 32, 103, 105, 118, 101, 110, 32, 110, 105, 108])]))

/-- 'zzlaws_root_b1.FnLineReaderEndTellsEndOfLogOrTooLongLine': WHATEVER THE INPUT: true; the input reads as it did. -/
def fnLineReaderEndTellsEndOfLogOrTooLongLineSpec : ChangeSpec := { name := "fnLineReaderEndTellsEndOfLogOrTooLongLine", vars := ["example.com/antecede/antecede.errNoLog"], fn := fun _ => fun
  | [d1, d2, g1] => { results := [.lit (.bool true)], args := [d1, d2], vars := [g1] }
  | _ => none }
def fnLineReaderEndTellsEndOfLogOrTooLongLineRow : OpenClaim := { program := "qxb6612715afmt", sum := "34ce9d968b7fc9b2ee0113f8686ed8077352726f19f30fd3f56efb8e78b57ed2", func := "example.com/antecede/antecede/zzlaws_root_b1.FnLineReaderEndTellsEndOfLogOrTooLongLine", spec := "fnLineReaderEndTellsEndOfLogOrTooLongLine", stops := ["fmt.errorf"], inPlace := ["internal/bytealg.IndexByte", "fmt.errorf", "internal/reflectlite.TypeOf"], unfollowed := true, recurses := true, named := ["bufio.ErrFinalToken", "bufio.ErrTooLong", "bufio.ErrBadReadCount", "io.ErrNoProgress", "io.EOF", "bufio.ErrNegativeAdvance", "bufio.ErrAdvanceTooFar", "example.com/antecede/antecede.errNoLog"], ifaces := true, apart := false, laid := [("io.EOF", laid_io_EOF), ("io.ErrNoProgress", laid_io_ErrNoProgress), ("bufio.ErrTooLong", laid_bufio_ErrTooLong), ("bufio.ErrNegativeAdvance", laid_bufio_ErrNegativeAdvance), ("bufio.ErrAdvanceTooFar", laid_bufio_ErrAdvanceTooFar), ("bufio.ErrBadReadCount", laid_bufio_ErrBadReadCount), ("bufio.ErrFinalToken", laid_bufio_ErrFinalToken), ("example.com/antecede/antecede.errNoLog", laid_example_com_antecede_antecede_errNoLog)] }
/-- NO THEOREM (fmt's text is open here; it may be false): for the released tool's asking of the row's closed facts alone. THE STATEMENT IS 'FnLineReaderEndTellsEndOfLogOrTooLongLineToldSaid' (Qxb6612715aFmtCards.lean). -/
def FnLineReaderEndTellsEndOfLogOrTooLongLineFormAsk : Prop := fnLineReaderEndTellsEndOfLogOrTooLongLineRow.holds Tryf.pinned (OpenSpec.ofChange fnLineReaderEndTellsEndOfLogOrTooLongLineSpec)

/-- ITS FALSE NEIGHBOUR: 'it returns false'. Refute it at one input. -/
def fnLineReaderEndTellsEndOfLogOrTooLongLineWrong : ChangeSpec := { name := "fnLineReaderEndTellsEndOfLogOrTooLongLine", vars := ["example.com/antecede/antecede.errNoLog"], fn := fun _ => fun
  | [d1, d2, g1] => { results := [.lit (.bool false)], args := [d1, d2], vars := [g1] }
  | _ => none }
def FnLineReaderEndTellsEndOfLogOrTooLongLineWrongFormAsk : Prop := fnLineReaderEndTellsEndOfLogOrTooLongLineRow.holds Tryf.pinned (OpenSpec.ofChange fnLineReaderEndTellsEndOfLogOrTooLongLineWrong)

/-- 'zzlaws_root_b1.FnLineReaderEndOfJoinedLogIsEndOfBoth': WHATEVER THE INPUT: true; the input reads as it did. -/
def fnLineReaderEndOfJoinedLogIsEndOfBothSpec : ChangeSpec := { name := "fnLineReaderEndOfJoinedLogIsEndOfBoth", vars := ["example.com/antecede/antecede.errNoLog"], fn := fun _ => fun
  | [d1, d2, g1] => { results := [.lit (.bool true)], args := [d1, d2], vars := [g1] }
  | _ => none }
def fnLineReaderEndOfJoinedLogIsEndOfBothRow : OpenClaim := { program := "qxb6612715afmt", sum := "34ce9d968b7fc9b2ee0113f8686ed8077352726f19f30fd3f56efb8e78b57ed2", func := "example.com/antecede/antecede/zzlaws_root_b1.FnLineReaderEndOfJoinedLogIsEndOfBoth", spec := "fnLineReaderEndOfJoinedLogIsEndOfBoth", stops := ["fmt.errorf"], inPlace := ["internal/bytealg.IndexByte", "fmt.errorf", "internal/reflectlite.TypeOf"], unfollowed := true, recurses := true, named := ["bufio.ErrFinalToken", "bufio.ErrTooLong", "bufio.ErrBadReadCount", "io.ErrNoProgress", "io.EOF", "bufio.ErrNegativeAdvance", "bufio.ErrAdvanceTooFar", "example.com/antecede/antecede.errNoLog"], ifaces := true, apart := false, laid := [("io.EOF", laid_io_EOF), ("io.ErrNoProgress", laid_io_ErrNoProgress), ("bufio.ErrTooLong", laid_bufio_ErrTooLong), ("bufio.ErrNegativeAdvance", laid_bufio_ErrNegativeAdvance), ("bufio.ErrAdvanceTooFar", laid_bufio_ErrAdvanceTooFar), ("bufio.ErrBadReadCount", laid_bufio_ErrBadReadCount), ("bufio.ErrFinalToken", laid_bufio_ErrFinalToken), ("example.com/antecede/antecede.errNoLog", laid_example_com_antecede_antecede_errNoLog)] }
/-- NO THEOREM (fmt's text is open here; it may be false): for the released tool's asking of the row's closed facts alone. THE STATEMENT IS 'FnLineReaderEndOfJoinedLogIsEndOfBothToldSaid' (Qxb6612715aFmtCards.lean). -/
def FnLineReaderEndOfJoinedLogIsEndOfBothFormAsk : Prop := fnLineReaderEndOfJoinedLogIsEndOfBothRow.holds Tryf.pinned (OpenSpec.ofChange fnLineReaderEndOfJoinedLogIsEndOfBothSpec)

/-- ITS FALSE NEIGHBOUR: 'it returns false'. Refute it at one input. -/
def fnLineReaderEndOfJoinedLogIsEndOfBothWrong : ChangeSpec := { name := "fnLineReaderEndOfJoinedLogIsEndOfBoth", vars := ["example.com/antecede/antecede.errNoLog"], fn := fun _ => fun
  | [d1, d2, g1] => { results := [.lit (.bool false)], args := [d1, d2], vars := [g1] }
  | _ => none }
def FnLineReaderEndOfJoinedLogIsEndOfBothWrongFormAsk : Prop := fnLineReaderEndOfJoinedLogIsEndOfBothRow.holds Tryf.pinned (OpenSpec.ofChange fnLineReaderEndOfJoinedLogIsEndOfBothWrong)

end Rows
end Go.Proofs.Qxb6612715aFmt
