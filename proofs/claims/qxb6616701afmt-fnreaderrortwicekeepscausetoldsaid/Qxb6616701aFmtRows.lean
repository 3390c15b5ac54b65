/-
  NARROWER THAN 'FOR EVERY INPUT', by the rows' own cells (each row's printed sentence says how): FnReadErrorTwiceKeepsCause: ifaces, laid · FnReadErrorKeepsCausesApart: ifaces, laid.
  DERIVED. THE GIVEN ROWS OF THIS SEAT. 2 by the template 'for every input the law returns true; each argument reads behind the call as it read before'; 0 by the template 'total and deterministic' (their statements: Qxb6616701aFmtTotals.lean).
  GIVEN WITH THE SEED: the statements are not yours to turn. If you find one false, say at which input.
  Laid BY PROGRAM, IN A SANDBOX (cutbox-rows.mjs): the forced cells as the released guide's own fill.sh prints them over the translation 84825f24405cd357… (all of the seat's roots in one cut). By AI agents, Wed Nov 11 2026. No macro, syntax, notation, axiom, sorry.
-/
import Derived.Test.Qxb6616701aFmtChecked
import GoSem.Claim
import GoSem.ClaimJoined
import GoSem.ClaimMapViews
import Derived.JoinedTies
import Derived.KernelRfl
namespace Go.Proofs.Qxb6616701aFmt
/- THE CELL 'sum', in the pinned program and in every row, IS THE sha256 OF THE DUMP (.gsa) THAT Qxb6616701aFmtProg.lean LOADS. Nothing in Lean hashes anything: it is a label: what it is worth is what the hold of that sum in a sandbox is worth. -/
noncomputable def Tryf.pinned : Pinned := { name := "qxb6616701afmt", sum := "84825f24405cd3575aa2e48b0fde72044a8bceda49151a95f7e88f413e062a49", checked := Tryf.checked }
namespace Rows
def none {H : Type} : Left H := { results := [], args := [] }

/- WHAT THE LISTED PACKAGE-LEVEL VARIABLES READ AS WHEN THE CALL BEGINS. Each datum BY PROGRAM (the guide's laid-datum.mjs) off the statement by which the dump's own 'gosem.cut.vars' lays the variable. In a bare row this is a premise. The card (Qxb6616701aFmtCards.lean) ties it to the program's text. -/
def laid_io_EOF {H : Type} : DataW H := .iface "*errors.errorString" (.ptr (.agg [.lit (.string [69, 79, 70])]))
def laid_io_ErrUnexpectedEOF {H : Type} : DataW H := .iface "*errors.errorString" (.ptr (.agg [.lit (.string [117, 110, 101, 120, 112, 101, 99, 116, 101, 100, 32, 69, 79, 70])]))
def laid_example_com_seshat_seshat_internal_eventstream_ErrMalformed {H : Type} : DataW H := .iface "*errors.errorString" (.ptr (.agg [.lit (.string [109, 97, 108, 102, 111, 114, 109, 101, 100, 32, 101, 118, 101, 110, 116, 32, 115, 116, 114, 101, 97, 109])]))

/-- 'zzlaws_internal_eventstream_b1.FnReadErrorTwiceKeepsCause': WHATEVER THE INPUT: true; the input reads as it did. -/
def fnReadErrorTwiceKeepsCauseSpec : ChangeSpec := { name := "fnReadErrorTwiceKeepsCause", vars := ["example.com/seshat/seshat/internal/eventstream.ErrMalformed"], fn := fun _ => fun
  | [d1, d2, g1] => { results := [.lit (.bool true)], args := [d1, d2], vars := [g1] }
  | _ => none }
def fnReadErrorTwiceKeepsCauseRow : OpenClaim := { program := "qxb6616701afmt", sum := "84825f24405cd3575aa2e48b0fde72044a8bceda49151a95f7e88f413e062a49", func := "example.com/seshat/seshat/zzlaws_internal_eventstream_b1.FnReadErrorTwiceKeepsCause", spec := "fnReadErrorTwiceKeepsCause", stops := ["fmt.errorf"], inPlace := ["fmt.errorf", "internal/reflectlite.TypeOf"], unfollowed := true, recurses := true, named := ["io.EOF", "io.ErrUnexpectedEOF", "example.com/seshat/seshat/internal/eventstream.ErrMalformed"], ifaces := true, apart := false, laid := [("io.EOF", laid_io_EOF), ("io.ErrUnexpectedEOF", laid_io_ErrUnexpectedEOF), ("example.com/seshat/seshat/internal/eventstream.ErrMalformed", laid_example_com_seshat_seshat_internal_eventstream_ErrMalformed)] }
/-- NO THEOREM (fmt's text is open here; it may be false): for the released tool's asking of the row's closed facts alone. THE STATEMENT IS 'FnReadErrorTwiceKeepsCauseToldSaid' (Qxb6616701aFmtCards.lean). -/
def FnReadErrorTwiceKeepsCauseFormAsk : Prop := fnReadErrorTwiceKeepsCauseRow.holds Tryf.pinned (OpenSpec.ofChange fnReadErrorTwiceKeepsCauseSpec)

/-- ITS FALSE NEIGHBOUR: 'it returns false'. Refute it at one input. -/
def fnReadErrorTwiceKeepsCauseWrong : ChangeSpec := { name := "fnReadErrorTwiceKeepsCause", vars := ["example.com/seshat/seshat/internal/eventstream.ErrMalformed"], fn := fun _ => fun
  | [d1, d2, g1] => { results := [.lit (.bool false)], args := [d1, d2], vars := [g1] }
  | _ => none }
def FnReadErrorTwiceKeepsCauseWrongFormAsk : Prop := fnReadErrorTwiceKeepsCauseRow.holds Tryf.pinned (OpenSpec.ofChange fnReadErrorTwiceKeepsCauseWrong)

/-- 'zzlaws_internal_eventstream_b1.FnReadErrorKeepsCausesApart': WHATEVER THE INPUT: true; the input reads as it did. -/
def fnReadErrorKeepsCausesApartSpec : ChangeSpec := { name := "fnReadErrorKeepsCausesApart", vars := ["example.com/seshat/seshat/internal/eventstream.ErrMalformed"], fn := fun _ => fun
  | [d1, d2, d3, d4, g1] => { results := [.lit (.bool true)], args := [d1, d2, d3, d4], vars := [g1] }
  | _ => none }
def fnReadErrorKeepsCausesApartRow : OpenClaim := { program := "qxb6616701afmt", sum := "84825f24405cd3575aa2e48b0fde72044a8bceda49151a95f7e88f413e062a49", func := "example.com/seshat/seshat/zzlaws_internal_eventstream_b1.FnReadErrorKeepsCausesApart", spec := "fnReadErrorKeepsCausesApart", stops := ["fmt.errorf"], inPlace := ["fmt.errorf", "internal/reflectlite.TypeOf"], unfollowed := true, recurses := true, named := ["io.EOF", "io.ErrUnexpectedEOF", "example.com/seshat/seshat/internal/eventstream.ErrMalformed"], ifaces := true, apart := false, laid := [("io.EOF", laid_io_EOF), ("io.ErrUnexpectedEOF", laid_io_ErrUnexpectedEOF), ("example.com/seshat/seshat/internal/eventstream.ErrMalformed", laid_example_com_seshat_seshat_internal_eventstream_ErrMalformed)] }
/-- NO THEOREM (fmt's text is open here; it may be false): for the released tool's asking of the row's closed facts alone. THE STATEMENT IS 'FnReadErrorKeepsCausesApartToldSaid' (Qxb6616701aFmtCards.lean). -/
def FnReadErrorKeepsCausesApartFormAsk : Prop := fnReadErrorKeepsCausesApartRow.holds Tryf.pinned (OpenSpec.ofChange fnReadErrorKeepsCausesApartSpec)

/-- ITS FALSE NEIGHBOUR: 'it returns false'. Refute it at one input. -/
def fnReadErrorKeepsCausesApartWrong : ChangeSpec := { name := "fnReadErrorKeepsCausesApart", vars := ["example.com/seshat/seshat/internal/eventstream.ErrMalformed"], fn := fun _ => fun
  | [d1, d2, d3, d4, g1] => { results := [.lit (.bool false)], args := [d1, d2, d3, d4], vars := [g1] }
  | _ => none }
def FnReadErrorKeepsCausesApartWrongFormAsk : Prop := fnReadErrorKeepsCausesApartRow.holds Tryf.pinned (OpenSpec.ofChange fnReadErrorKeepsCausesApartWrong)

end Rows
end Go.Proofs.Qxb6616701aFmt
