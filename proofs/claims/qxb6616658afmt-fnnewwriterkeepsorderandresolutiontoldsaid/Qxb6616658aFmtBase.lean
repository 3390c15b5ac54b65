import Derived.Test.Qxb6616658aFmtOf
import Derived.Test.Qxb6616658aFmtTie
import Derived.Test.Qxb6616658aFmtCards
import Derived.ProofKit
import Derived.Stop.JoinedAt
import Derived.Stop.JoinedTold
import Derived.Stop.LaidTwo
import Derived.Deep.DeepWitnessRef
import Derived.LaidMore
import Derived.SizedLaws
import Derived.OpenShut
namespace Go.Proofs.Qxb6616658aFmt
open Go.ChangeShapes Go.WideShapes Go.ChangeAt Go.RowKit Go.Kit
open Go.Extern.Stop Go.Stop Go.Extern

theorem Tryf.own : ownKnob Tryf.prog.godebug = none := by kernel_rfl
theorem Tryf.laidOut : laidOutB Tryf.pinned.checked.prog = true := by kernel_rfl
theorem Tryf.cells5 : Tryf.prog.cellsOf 5 = 1 := by kernel_rfl
theorem Tryf.stops : Tryf.pinned.checked.prog.stops = ["fmt.errorf"] := by kernel_rfl
theorem Tryf.stopKnobs : Tryf.pinned.checked.prog.stopKnobs = [] := by kernel_rfl
theorem Tryf.quiet (os : Os) : Stop.quiet Tryf.pinned.checked.prog os := by
  intro k hk
  rw [Tryf.stopKnobs] at hk
  cases hk
theorem sent_of_laid {W : World} (hL : laidMetH Tryf.prog Rows.fnReaderHeaderIsTheFileHeaderRow.laid W) : ∃ a0 a1, Sent W a0 a1 := by
  have hL2 := hL
  rw [MakeChecks.laidMetH_plain _ _ _ (by kernel_rfl)] at hL2
  have hL' : laidMet Tryf.prog [("io.ErrShortBuffer", Rows.laid_io_ErrShortBuffer), ("io.EOF", Rows.laid_io_EOF), ("io.ErrUnexpectedEOF", Rows.laid_io_ErrUnexpectedEOF)] W := hL2
  obtain ⟨a0, a1, s0, s1, c0, c1, t0, t1, hv0, hv1, _, _, _, _, _, _, hne, hb0, hb1⟩ := laid_sentinels2 (g0 := 0) (g1 := 1) hL'.tail (by kernel_rfl) (by kernel_rfl) (by kernel_rfl) (by kernel_rfl) Tryf.underlying30 (fun u h => typeName_ptr_named (nm := "errors.errorString") (by kernel_rfl) (by kernel_rfl) (by decide) u (h.trans (congrArg some (by decide)))) Tryf.underlying96 Tryf.underlying98 rfl rfl Tryf.underlying9 (by kernel_rfl) (by kernel_rfl)
  refine ⟨a0, a1, ?_, ?_, fun e => hne e.symm, ⟨_, _, hb0⟩, ⟨_, _, hb1⟩⟩
  · have := World.var?_cell (g := 0) (by kernel_rfl) hv0 0; simpa using this
  · have := World.var?_cell (g := 1) (by kernel_rfl) hv1 0; simpa using this

theorem door_met (os : Os) (args : Array Value) : laidMetH Tryf.prog Rows.fnReaderHeaderIsTheFileHeaderRow.laid ((World.doorLaid Tryf.prog 104 os).forCall (fun _ _ => 0) ⟨#[], args, []⟩).memory :=
  laidMetH_of_parts3 (fuel := 8) (laidMet_of_run' 8 (by kernel_rfl) (by kernel_rfl)) (by kernel_rfl) (by kernel_rfl)
end Go.Proofs.Qxb6616658aFmt
