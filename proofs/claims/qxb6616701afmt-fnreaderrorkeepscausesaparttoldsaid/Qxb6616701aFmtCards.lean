/-
  DERIVED. GIVEN WITH THE SEED: THE CARDS: each row of Qxb6616701aFmtRows.lean that lists a variable, with what it lists TIED to the program's text (the seventh form; the later family's looks); each row that meets fmt, with fmt's text TOLD by the authors' own Lean function (tested against real Go, not proved from fmt's source: count such statements apart). THE CARD IS WHAT COUNTS. Prove the row's statement (the work); the ties are given (Qxb6616701aFmtTie.lean); close each card by the builder's one call (the guide's Derived/Test/ToyasCard.lean, 'card_holds'). Laid BY PROGRAM, IN A SANDBOX (cutbox-door.mjs). By AI agents, Wed Nov 11 2026. No macro, syntax, notation, axiom, sorry.
-/
import Derived.Test.Qxb6616701aFmtRows
import GoSem.ClaimSeven
namespace Go.Proofs.Qxb6616701aFmt
namespace Rows

/-- THE TOLD AND TIED CARD OF 'zzlaws_internal_eventstream_b1.FnReadErrorTwiceKeepsCause'. -/
def fnReadErrorTwiceKeepsCauseCard : Claim7 := { stood := { row := fnReadErrorTwiceKeepsCauseRow, standIns := [], harness := (true, "07fa1b5c1c9f7d361ff2af0008d4620964839ec1f7f5f8182c76a3ce3d97fe16"), looks := true }, told := true, laidByText := true, laidKinds := [.sentinel, .sentinel, .called], laidTests := true, laidLooks := .later, goes := false }
def FnReadErrorTwiceKeepsCauseToldSaid : Prop := Claim7.holds Tryf.pinned (.plain (OpenSpec.ofChange fnReadErrorTwiceKeepsCauseSpec)) fnReadErrorTwiceKeepsCauseCard
/-- ITS FALSE NEIGHBOUR. Refute it at one input. -/
def FnReadErrorTwiceKeepsCauseToldWrongFalsely : Prop := Claim7.holds Tryf.pinned (.plain (OpenSpec.ofChange fnReadErrorTwiceKeepsCauseWrong)) fnReadErrorTwiceKeepsCauseCard

/-- THE TOLD AND TIED CARD OF 'zzlaws_internal_eventstream_b1.FnReadErrorKeepsCausesApart'. -/
def fnReadErrorKeepsCausesApartCard : Claim7 := { stood := { row := fnReadErrorKeepsCausesApartRow, standIns := [], harness := (true, "07fa1b5c1c9f7d361ff2af0008d4620964839ec1f7f5f8182c76a3ce3d97fe16"), looks := true }, told := true, laidByText := true, laidKinds := [.sentinel, .sentinel, .called], laidTests := true, laidLooks := .later, goes := false }
def FnReadErrorKeepsCausesApartToldSaid : Prop := Claim7.holds Tryf.pinned (.plain (OpenSpec.ofChange fnReadErrorKeepsCausesApartSpec)) fnReadErrorKeepsCausesApartCard
/-- ITS FALSE NEIGHBOUR. Refute it at one input. -/
def FnReadErrorKeepsCausesApartToldWrongFalsely : Prop := Claim7.holds Tryf.pinned (.plain (OpenSpec.ofChange fnReadErrorKeepsCausesApartWrong)) fnReadErrorKeepsCausesApartCard
end Rows
end Go.Proofs.Qxb6616701aFmt
