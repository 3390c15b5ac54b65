/-
  NARROWER THAN 'FOR EVERY INPUT', by the rows' own cells (each row's printed sentence says how): FnReaderHeaderIsTheFileHeader: laid · FnReaderHeaderSameInEitherByteOrder: laid · FnNewWriterWritesTheHeaderBack: laid · FnNewWriterKeepsOrderAndResolution: laid.
  DERIVED. THE GIVEN ROWS OF THIS SEAT. 4 by the template 'for every input the law returns true; each argument reads behind the call as it read before'; 0 by the template 'total and deterministic' (their statements: Qxb6616658aFmtTotals.lean).
  GIVEN WITH THE SEED: the statements are not yours to turn. If you find one false, say at which input.
  Laid BY PROGRAM, IN A SANDBOX (cutbox-rows.mjs): the forced cells as the released guide's own fill.sh prints them over the translation 01c5db61066fb396… (all of the seat's roots in one cut). By AI agents, Wed Nov 11 2026. No macro, syntax, notation, axiom, sorry.
-/
import Derived.Test.Qxb6616658aFmtChecked
import GoSem.Claim
import GoSem.ClaimJoined
import GoSem.ClaimMapViews
import Derived.JoinedTies
import Derived.KernelRfl
namespace Go.Proofs.Qxb6616658aFmt
/- THE CELL 'sum', in the pinned program and in every row, IS THE sha256 OF THE DUMP (.gsa) THAT Qxb6616658aFmtProg.lean LOADS. Nothing in Lean hashes anything: it is a label: what it is worth is what the hold of that sum in a sandbox is worth. -/
noncomputable def Tryf.pinned : Pinned := { name := "qxb6616658afmt", sum := "01c5db61066fb3962bc0e0e2b29d27c9f54447dcc90a690f8b71ecb485db29f6", checked := Tryf.checked }
namespace Rows
def none {H : Type} : Left H := { results := [], args := [] }

/- WHAT THE LISTED PACKAGE-LEVEL VARIABLES READ AS WHEN THE CALL BEGINS. Each datum BY PROGRAM (the guide's laid-datum.mjs) off the statement by which the dump's own 'gosem.cut.vars' lays the variable. In a bare row this is a premise. The card (Qxb6616658aFmtCards.lean) ties it to the program's text. -/
def laid_io_ErrShortBuffer {H : Type} : DataW H := .iface "*errors.errorString" (.ptr (.agg [.lit (.string [115, 104, 111, 114, 116, 32, 98, 117, 102, 102, 101, 114])]))
def laid_io_EOF {H : Type} : DataW H := .iface "*errors.errorString" (.ptr (.agg [.lit (.string [69, 79, 70])]))
def laid_io_ErrUnexpectedEOF {H : Type} : DataW H := .iface "*errors.errorString" (.ptr (.agg [.lit (.string [117, 110, 101, 120, 112, 101, 99, 116, 101, 100, 32, 69, 79, 70])]))

/-- 'zzlaws_pkg_capture_b1.FnReaderHeaderIsTheFileHeader': WHATEVER THE INPUT: true; the input reads as it did. -/
def fnReaderHeaderIsTheFileHeaderSpec : ChangeSpec := { name := "fnReaderHeaderIsTheFileHeader", fn := fun _ => fun
  | [d] => { results := [.lit (.bool true)], args := [d] }
  | _ => none }
def fnReaderHeaderIsTheFileHeaderRow : OpenClaim := { program := "qxb6616658afmt", sum := "01c5db61066fb3962bc0e0e2b29d27c9f54447dcc90a690f8b71ecb485db29f6", func := "example.com/reheard/reheard/zzlaws_pkg_capture_b1.FnReaderHeaderIsTheFileHeader", spec := "fnReaderHeaderIsTheFileHeader", stops := ["fmt.errorf"], inPlace := ["internal/reflectlite.TypeOf", "fmt.errorf"], unfollowed := true, recurses := true, named := ["io.EOF", "io.ErrUnexpectedEOF", "io.ErrShortBuffer", "encoding/binary.LittleEndian", "encoding/binary.BigEndian"], apart := false, laid := [("io.ErrShortBuffer", laid_io_ErrShortBuffer), ("io.EOF", laid_io_EOF), ("io.ErrUnexpectedEOF", laid_io_ErrUnexpectedEOF)] }
/-- NO THEOREM (fmt's text is open here; it may be false): for the released tool's asking of the row's closed facts alone. THE STATEMENT IS 'FnReaderHeaderIsTheFileHeaderToldSaid' (Qxb6616658aFmtCards.lean). -/
def FnReaderHeaderIsTheFileHeaderFormAsk : Prop := fnReaderHeaderIsTheFileHeaderRow.holds Tryf.pinned (OpenSpec.ofChange fnReaderHeaderIsTheFileHeaderSpec)

/-- ITS FALSE NEIGHBOUR: 'it returns false'. Refute it at one input. -/
def fnReaderHeaderIsTheFileHeaderWrong : ChangeSpec := { name := "fnReaderHeaderIsTheFileHeader", fn := fun _ => fun
  | [d] => { results := [.lit (.bool false)], args := [d] }
  | _ => none }
def FnReaderHeaderIsTheFileHeaderWrongFormAsk : Prop := fnReaderHeaderIsTheFileHeaderRow.holds Tryf.pinned (OpenSpec.ofChange fnReaderHeaderIsTheFileHeaderWrong)

/-- 'zzlaws_pkg_capture_b1.FnReaderHeaderSameInEitherByteOrder': WHATEVER THE INPUT: true; the input reads as it did. -/
def fnReaderHeaderSameInEitherByteOrderSpec : ChangeSpec := { name := "fnReaderHeaderSameInEitherByteOrder", fn := fun _ => fun
  | [d] => { results := [.lit (.bool true)], args := [d] }
  | _ => none }
def fnReaderHeaderSameInEitherByteOrderRow : OpenClaim := { program := "qxb6616658afmt", sum := "01c5db61066fb3962bc0e0e2b29d27c9f54447dcc90a690f8b71ecb485db29f6", func := "example.com/reheard/reheard/zzlaws_pkg_capture_b1.FnReaderHeaderSameInEitherByteOrder", spec := "fnReaderHeaderSameInEitherByteOrder", stops := ["fmt.errorf"], inPlace := ["internal/reflectlite.TypeOf", "fmt.errorf"], unfollowed := true, recurses := true, named := ["io.EOF", "io.ErrUnexpectedEOF", "io.ErrShortBuffer", "encoding/binary.LittleEndian", "encoding/binary.BigEndian"], apart := false, laid := [("io.ErrShortBuffer", laid_io_ErrShortBuffer), ("io.EOF", laid_io_EOF), ("io.ErrUnexpectedEOF", laid_io_ErrUnexpectedEOF)] }
/-- NO THEOREM (fmt's text is open here; it may be false): for the released tool's asking of the row's closed facts alone. THE STATEMENT IS 'FnReaderHeaderSameInEitherByteOrderToldSaid' (Qxb6616658aFmtCards.lean). -/
def FnReaderHeaderSameInEitherByteOrderFormAsk : Prop := fnReaderHeaderSameInEitherByteOrderRow.holds Tryf.pinned (OpenSpec.ofChange fnReaderHeaderSameInEitherByteOrderSpec)

/-- ITS FALSE NEIGHBOUR: 'it returns false'. Refute it at one input. -/
def fnReaderHeaderSameInEitherByteOrderWrong : ChangeSpec := { name := "fnReaderHeaderSameInEitherByteOrder", fn := fun _ => fun
  | [d] => { results := [.lit (.bool false)], args := [d] }
  | _ => none }
def FnReaderHeaderSameInEitherByteOrderWrongFormAsk : Prop := fnReaderHeaderSameInEitherByteOrderRow.holds Tryf.pinned (OpenSpec.ofChange fnReaderHeaderSameInEitherByteOrderWrong)

/-- 'zzlaws_pkg_capture_b1.FnNewWriterWritesTheHeaderBack': WHATEVER THE INPUT: true; the input reads as it did. -/
def fnNewWriterWritesTheHeaderBackSpec : ChangeSpec := { name := "fnNewWriterWritesTheHeaderBack", fn := fun _ => fun
  | [d] => { results := [.lit (.bool true)], args := [d] }
  | _ => none }
def fnNewWriterWritesTheHeaderBackRow : OpenClaim := { program := "qxb6616658afmt", sum := "01c5db61066fb3962bc0e0e2b29d27c9f54447dcc90a690f8b71ecb485db29f6", func := "example.com/reheard/reheard/zzlaws_pkg_capture_b1.FnNewWriterWritesTheHeaderBack", spec := "fnNewWriterWritesTheHeaderBack", stops := ["fmt.errorf"], inPlace := ["internal/reflectlite.TypeOf", "fmt.errorf"], unfollowed := true, recurses := true, named := ["io.EOF", "io.ErrUnexpectedEOF", "io.ErrShortBuffer", "encoding/binary.LittleEndian", "encoding/binary.BigEndian"], apart := false, laid := [("io.ErrShortBuffer", laid_io_ErrShortBuffer), ("io.EOF", laid_io_EOF), ("io.ErrUnexpectedEOF", laid_io_ErrUnexpectedEOF)] }
/-- NO THEOREM (fmt's text is open here; it may be false): for the released tool's asking of the row's closed facts alone. THE STATEMENT IS 'FnNewWriterWritesTheHeaderBackToldSaid' (Qxb6616658aFmtCards.lean). -/
def FnNewWriterWritesTheHeaderBackFormAsk : Prop := fnNewWriterWritesTheHeaderBackRow.holds Tryf.pinned (OpenSpec.ofChange fnNewWriterWritesTheHeaderBackSpec)

/-- ITS FALSE NEIGHBOUR: 'it returns false'. Refute it at one input. -/
def fnNewWriterWritesTheHeaderBackWrong : ChangeSpec := { name := "fnNewWriterWritesTheHeaderBack", fn := fun _ => fun
  | [d] => { results := [.lit (.bool false)], args := [d] }
  | _ => none }
def FnNewWriterWritesTheHeaderBackWrongFormAsk : Prop := fnNewWriterWritesTheHeaderBackRow.holds Tryf.pinned (OpenSpec.ofChange fnNewWriterWritesTheHeaderBackWrong)

/-- 'zzlaws_pkg_capture_b1.FnNewWriterKeepsOrderAndResolution': WHATEVER THE INPUT: true; the input reads as it did. -/
def fnNewWriterKeepsOrderAndResolutionSpec : ChangeSpec := { name := "fnNewWriterKeepsOrderAndResolution", fn := fun _ => fun
  | [d1, d2, d3, d4, d5] => { results := [.lit (.bool true)], args := [d1, d2, d3, d4, d5] }
  | _ => none }
def fnNewWriterKeepsOrderAndResolutionRow : OpenClaim := { program := "qxb6616658afmt", sum := "01c5db61066fb3962bc0e0e2b29d27c9f54447dcc90a690f8b71ecb485db29f6", func := "example.com/reheard/reheard/zzlaws_pkg_capture_b1.FnNewWriterKeepsOrderAndResolution", spec := "fnNewWriterKeepsOrderAndResolution", stops := ["fmt.errorf"], inPlace := ["internal/reflectlite.TypeOf", "fmt.errorf"], unfollowed := true, recurses := true, named := ["io.EOF", "io.ErrUnexpectedEOF", "io.ErrShortBuffer", "encoding/binary.LittleEndian", "encoding/binary.BigEndian"], apart := false, laid := [("io.ErrShortBuffer", laid_io_ErrShortBuffer), ("io.EOF", laid_io_EOF), ("io.ErrUnexpectedEOF", laid_io_ErrUnexpectedEOF)] }
/-- NO THEOREM (fmt's text is open here; it may be false): for the released tool's asking of the row's closed facts alone. THE STATEMENT IS 'FnNewWriterKeepsOrderAndResolutionToldSaid' (Qxb6616658aFmtCards.lean). -/
def FnNewWriterKeepsOrderAndResolutionFormAsk : Prop := fnNewWriterKeepsOrderAndResolutionRow.holds Tryf.pinned (OpenSpec.ofChange fnNewWriterKeepsOrderAndResolutionSpec)

/-- ITS FALSE NEIGHBOUR: 'it returns false'. Refute it at one input. -/
def fnNewWriterKeepsOrderAndResolutionWrong : ChangeSpec := { name := "fnNewWriterKeepsOrderAndResolution", fn := fun _ => fun
  | [d1, d2, d3, d4, d5] => { results := [.lit (.bool false)], args := [d1, d2, d3, d4, d5] }
  | _ => none }
def FnNewWriterKeepsOrderAndResolutionWrongFormAsk : Prop := fnNewWriterKeepsOrderAndResolutionRow.holds Tryf.pinned (OpenSpec.ofChange fnNewWriterKeepsOrderAndResolutionWrong)

end Rows
end Go.Proofs.Qxb6616658aFmt
