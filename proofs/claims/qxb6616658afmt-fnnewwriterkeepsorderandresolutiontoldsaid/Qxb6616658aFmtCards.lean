/-
  DERIVED. GIVEN WITH THE SEED: THE CARDS: each row of Qxb6616658aFmtRows.lean that lists a variable, with what it lists TIED to the program's text (the seventh form; the later family's looks); each row that meets fmt, with fmt's text TOLD by the authors' own Lean function (tested against real Go, not proved from fmt's source: count such statements apart). THE CARD IS WHAT COUNTS. Prove the row's statement (the work); the ties are given (Qxb6616658aFmtTie.lean); close each card by the builder's one call (the guide's Derived/Test/ToyasCard.lean, 'card_holds'). Laid BY PROGRAM, IN A SANDBOX (cutbox-door.mjs). By AI agents, Wed Nov 11 2026. No macro, syntax, notation, axiom, sorry.
-/
import Derived.Test.Qxb6616658aFmtRows
import GoSem.ClaimSeven
namespace Go.Proofs.Qxb6616658aFmt
namespace Rows

/-- THE TOLD AND TIED CARD OF 'zzlaws_pkg_capture_b1.FnReaderHeaderIsTheFileHeader'. -/
def fnReaderHeaderIsTheFileHeaderCard : Claim7 := { stood := { row := fnReaderHeaderIsTheFileHeaderRow, standIns := [], harness := (true, "c98813540e9325c0c7e8b0a91cc326976d26c20954f9f7fb367b5a3606fb99c6"), looks := true }, told := true, laidByText := true, laidKinds := [.sentinel, .sentinel, .sentinel], laidTests := true, laidLooks := .later, goes := false }
def FnReaderHeaderIsTheFileHeaderToldSaid : Prop := Claim7.holds Tryf.pinned (.plain (OpenSpec.ofChange fnReaderHeaderIsTheFileHeaderSpec)) fnReaderHeaderIsTheFileHeaderCard
/-- ITS FALSE NEIGHBOUR. Refute it at one input. -/
def FnReaderHeaderIsTheFileHeaderToldWrongFalsely : Prop := Claim7.holds Tryf.pinned (.plain (OpenSpec.ofChange fnReaderHeaderIsTheFileHeaderWrong)) fnReaderHeaderIsTheFileHeaderCard

/-- THE TOLD AND TIED CARD OF 'zzlaws_pkg_capture_b1.FnReaderHeaderSameInEitherByteOrder'. -/
def fnReaderHeaderSameInEitherByteOrderCard : Claim7 := { stood := { row := fnReaderHeaderSameInEitherByteOrderRow, standIns := [], harness := (true, "c98813540e9325c0c7e8b0a91cc326976d26c20954f9f7fb367b5a3606fb99c6"), looks := true }, told := true, laidByText := true, laidKinds := [.sentinel, .sentinel, .sentinel], laidTests := true, laidLooks := .later, goes := false }
def FnReaderHeaderSameInEitherByteOrderToldSaid : Prop := Claim7.holds Tryf.pinned (.plain (OpenSpec.ofChange fnReaderHeaderSameInEitherByteOrderSpec)) fnReaderHeaderSameInEitherByteOrderCard
/-- ITS FALSE NEIGHBOUR. Refute it at one input. -/
def FnReaderHeaderSameInEitherByteOrderToldWrongFalsely : Prop := Claim7.holds Tryf.pinned (.plain (OpenSpec.ofChange fnReaderHeaderSameInEitherByteOrderWrong)) fnReaderHeaderSameInEitherByteOrderCard

/-- THE TOLD AND TIED CARD OF 'zzlaws_pkg_capture_b1.FnNewWriterWritesTheHeaderBack'. -/
def fnNewWriterWritesTheHeaderBackCard : Claim7 := { stood := { row := fnNewWriterWritesTheHeaderBackRow, standIns := [], harness := (true, "c98813540e9325c0c7e8b0a91cc326976d26c20954f9f7fb367b5a3606fb99c6"), looks := true }, told := true, laidByText := true, laidKinds := [.sentinel, .sentinel, .sentinel], laidTests := true, laidLooks := .later, goes := false }
def FnNewWriterWritesTheHeaderBackToldSaid : Prop := Claim7.holds Tryf.pinned (.plain (OpenSpec.ofChange fnNewWriterWritesTheHeaderBackSpec)) fnNewWriterWritesTheHeaderBackCard
/-- ITS FALSE NEIGHBOUR. Refute it at one input. -/
def FnNewWriterWritesTheHeaderBackToldWrongFalsely : Prop := Claim7.holds Tryf.pinned (.plain (OpenSpec.ofChange fnNewWriterWritesTheHeaderBackWrong)) fnNewWriterWritesTheHeaderBackCard

/-- THE TOLD AND TIED CARD OF 'zzlaws_pkg_capture_b1.FnNewWriterKeepsOrderAndResolution'. -/
def fnNewWriterKeepsOrderAndResolutionCard : Claim7 := { stood := { row := fnNewWriterKeepsOrderAndResolutionRow, standIns := [], harness := (true, "c98813540e9325c0c7e8b0a91cc326976d26c20954f9f7fb367b5a3606fb99c6"), looks := true }, told := true, laidByText := true, laidKinds := [.sentinel, .sentinel, .sentinel], laidTests := true, laidLooks := .later, goes := false }
def FnNewWriterKeepsOrderAndResolutionToldSaid : Prop := Claim7.holds Tryf.pinned (.plain (OpenSpec.ofChange fnNewWriterKeepsOrderAndResolutionSpec)) fnNewWriterKeepsOrderAndResolutionCard
/-- ITS FALSE NEIGHBOUR. Refute it at one input. -/
def FnNewWriterKeepsOrderAndResolutionToldWrongFalsely : Prop := Claim7.holds Tryf.pinned (.plain (OpenSpec.ofChange fnNewWriterKeepsOrderAndResolutionWrong)) fnNewWriterKeepsOrderAndResolutionCard
end Rows
end Go.Proofs.Qxb6616658aFmt
