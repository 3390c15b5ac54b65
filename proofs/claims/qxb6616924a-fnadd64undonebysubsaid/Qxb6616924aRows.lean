/-
  No cell of these rows narrows 'for every input' (looked for: loops, veiled, ifaces, maps, wideKeys, modest, calm, conditions, laid).
  DERIVED. THE GIVEN ROWS OF THIS SEAT. 2 by the template 'for every input the law returns true; each argument reads behind the call as it read before'; 0 by the template 'total and deterministic' (their statements: Qxb6616924aTotals.lean).
  GIVEN WITH THE SEED: the statements are not yours to turn. If you find one false, say at which input.
  Laid BY PROGRAM, IN A SANDBOX (cutbox-rows.mjs): the forced cells as the released guide's own fill.sh prints them over the translation 85c8c6bffe79602b… (all of the seat's roots in one cut). By AI agents, Wed Nov 11 2026. No macro, syntax, notation, axiom, sorry.
-/
import Derived.Test.Qxb6616924aChecked
import GoSem.Claim
import GoSem.ClaimJoined
import GoSem.ClaimMapViews
import Derived.JoinedTies
import Derived.KernelRfl
namespace Go.Proofs.Qxb6616924a
/- THE CELL 'sum', in the pinned program and in every row, IS THE sha256 OF THE DUMP (.gsa) THAT Qxb6616924aProg.lean LOADS. Nothing in Lean hashes anything: it is a label: what it is worth is what the hold of that sum in a sandbox is worth. -/
noncomputable def Try.pinned : Pinned := { name := "qxb6616924a", sum := "85c8c6bffe79602b1391384aede7891389d19b4ffc5a33474b3ac4f3b1628c64", checked := Try.checked }
namespace Rows
def none {H : Type} : Left H := { results := [], args := [] }

/-- 'zzlaws_root_b1.FnAdd64UndoneBySub': WHATEVER THE INPUT: true; the input reads as it did. -/
def fnAdd64UndoneBySubSpec : ChangeSpec := { name := "fnAdd64UndoneBySub", fn := fun _ => fun
  | [d1, d2, d3] => { results := [.lit (.bool true)], args := [d1, d2, d3] }
  | _ => none }
def fnAdd64UndoneBySubRow : OpenClaim := { program := "qxb6616924a", sum := "85c8c6bffe79602b1391384aede7891389d19b4ffc5a33474b3ac4f3b1628c64", func := "example.com/mintwell/mintwell/zzlaws_root_b1.FnAdd64UndoneBySub", spec := "fnAdd64UndoneBySub", inPlace := ["math/bits.Add64", "math/bits.Sub64"], apart := false }
def FnAdd64UndoneBySubSaid : Prop := fnAdd64UndoneBySubRow.holds Try.pinned (OpenSpec.ofChange fnAdd64UndoneBySubSpec)

/-- ITS FALSE NEIGHBOUR: 'it returns false'. Refute it at one input. -/
def fnAdd64UndoneBySubWrong : ChangeSpec := { name := "fnAdd64UndoneBySub", fn := fun _ => fun
  | [d1, d2, d3] => { results := [.lit (.bool false)], args := [d1, d2, d3] }
  | _ => none }
def FnAdd64UndoneBySubWrongFalsely : Prop := fnAdd64UndoneBySubRow.holds Try.pinned (OpenSpec.ofChange fnAdd64UndoneBySubWrong)

/-- 'zzlaws_root_b1.FnAdd64OrderFree': WHATEVER THE INPUT: true; the input reads as it did. -/
def fnAdd64OrderFreeSpec : ChangeSpec := { name := "fnAdd64OrderFree", fn := fun _ => fun
  | [d1, d2, d3, d4] => { results := [.lit (.bool true)], args := [d1, d2, d3, d4] }
  | _ => none }
def fnAdd64OrderFreeRow : OpenClaim := { program := "qxb6616924a", sum := "85c8c6bffe79602b1391384aede7891389d19b4ffc5a33474b3ac4f3b1628c64", func := "example.com/mintwell/mintwell/zzlaws_root_b1.FnAdd64OrderFree", spec := "fnAdd64OrderFree", inPlace := ["math/bits.Add64"], apart := false }
def FnAdd64OrderFreeSaid : Prop := fnAdd64OrderFreeRow.holds Try.pinned (OpenSpec.ofChange fnAdd64OrderFreeSpec)

/-- ITS FALSE NEIGHBOUR: 'it returns false'. Refute it at one input. -/
def fnAdd64OrderFreeWrong : ChangeSpec := { name := "fnAdd64OrderFree", fn := fun _ => fun
  | [d1, d2, d3, d4] => { results := [.lit (.bool false)], args := [d1, d2, d3, d4] }
  | _ => none }
def FnAdd64OrderFreeWrongFalsely : Prop := fnAdd64OrderFreeRow.holds Try.pinned (OpenSpec.ofChange fnAdd64OrderFreeWrong)

end Rows
end Go.Proofs.Qxb6616924a
