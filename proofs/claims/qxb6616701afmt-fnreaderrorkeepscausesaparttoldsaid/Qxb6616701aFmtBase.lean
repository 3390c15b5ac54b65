import Derived.Test.Qxb6616701aFmtPart
import Derived.Test.Qxb6616701aFmtTie
import Derived.Test.Qxb6616701aFmtCards
import Derived.ProofKit
import Derived.Stop.JoinedAt
import Derived.Stop.JoinedTold
import Derived.Stop.LaidTwo
import Derived.Deep.DeepWitnessRef
import Derived.LaidMore
import Derived.SizedLaws
import Derived.OpenShut
import Derived.WalkSmall
namespace Go.Proofs.Qxb6616701aFmt
open Go.ChangeShapes Go.WideShapes Go.ChangeAt Go.RowKit Go.Kit
open Go.ChangeMaps (open_string shut_string)
open Go.Extern.Stop Go.Stop Go.Extern

theorem Tryf.own : ownKnob Tryf.prog.godebug = none := by kernel_rfl
theorem Tryf.laidOut : laidOutB Tryf.pinned.checked.prog = true := by kernel_rfl
theorem Tryf.stops : Tryf.pinned.checked.prog.stops = ["fmt.errorf"] := by kernel_rfl
theorem Tryf.stopKnobs : Tryf.pinned.checked.prog.stopKnobs = [] := by kernel_rfl
theorem Tryf.quiet (os : Os) : Stop.quiet Tryf.pinned.checked.prog os := by
  intro k hk
  rw [Tryf.stopKnobs] at hk
  cases hk

theorem sent_of_laid {W : World} (hL : laidMetH Tryf.prog Rows.fnReadErrorTwiceKeepsCauseRow.laid W) : ∃ m e0 e1, Sent W m e0 e1 ∧ ∀ (H : Type) (enc : TypeId × Value → H) (W' : World) (sp : Nat → Bool), Below W.heap.size W W' → DataW.TrodVars enc Tryf.prog W' sp Rows.fnReadErrorTwiceKeepsCauseSpec.vars [tok enc (.iface 38 (.pointer (some m)))] [.cell 0 0] := by
  have hL2 := hL
  rw [MakeChecks.laidMetH_plain _ _ _ (by kernel_rfl)] at hL2
  obtain ⟨a0, a1, s0, s1, c0, c1, t0, t1, hv0, hv1, hc0, hs0, _, _, _, _, hne, hb0, hb1⟩ := laid_sentinels2 (g0 := 1) (g1 := 2) hL2 (by kernel_rfl) (by kernel_rfl) (by kernel_rfl) (by kernel_rfl) Tryf.underlying24 (fun u h => typeName_ptr_named (nm := "errors.errorString") (by kernel_rfl) (by kernel_rfl) (by decide) u (h.trans (congrArg some (by decide)))) Tryf.underlying38 Tryf.underlying40 rfl rfl Tryf.underlying9 (by kernel_rfl) (by kernel_rfl)
  obtain ⟨b1, m, r1, rm, d1, dm, k1, km, hw1, hwm, _, _, _, hcm, hsm, _, hne2, hd1, hdm⟩ := laid_sentinels2 (g0 := 2) (g1 := 0) hL2.tail (by kernel_rfl) (by kernel_rfl) (by kernel_rfl) (by kernel_rfl) Tryf.underlying24 (fun u h => typeName_ptr_named (nm := "errors.errorString") (by kernel_rfl) (by kernel_rfl) (by decide) u (h.trans (congrArg some (by decide)))) Tryf.underlying38 Tryf.underlying40 rfl rfl Tryf.underlying9 (by kernel_rfl) (by kernel_rfl)
  have e : a1 = b1 := by
    have := hv1.symm.trans hw1
    simpa using this
  subst e
  have hgm := World.var?_cell (g := 0) (by kernel_rfl) hwm 0
  refine ⟨m, a0, a1, ⟨?_, ?_, ?_, ⟨rm, hcm⟩, ⟨_, _, hdm⟩, ⟨_, _, hb0⟩, ⟨_, _, hb1⟩, ?_, fun h => hne2 h.symm, hne⟩, fun H enc W' sp hb => ?_⟩
  · simpa using hgm
  · have := World.var?_cell (g := 1) (by kernel_rfl) hv0 0; simpa using this
  · have := World.var?_cell (g := 2) (by kernel_rfl) hv1 0; simpa using this
  · intro h
    rw [h, hc0] at hcm
    have : s0 = rm := by simpa using hcm
    rw [this, hsm] at hs0
    exact absurd hs0 (by decide)
  · exact vars_read1 (g := 0) enc (by kernel_rfl) (by kernel_rfl) Tryf.underlying24 (var?_below (g := 0) hb (by kernel_rfl) (block_lt_of_cell hgm) hwm) trivial sp

theorem door_met (os : Os) (args : Array Value) : laidMetH Tryf.prog Rows.fnReadErrorTwiceKeepsCauseRow.laid ((World.doorLaid Tryf.prog 66 os).forCall (fun _ _ => 0) ⟨#[], args, []⟩).memory :=
  laidMetH_of_parts3 (fuel := 8) (laidMet_of_run' 8 (by kernel_rfl) (by kernel_rfl)) (by kernel_rfl) (by kernel_rfl)
end Go.Proofs.Qxb6616701aFmt
