/-
  No cell of these rows narrows 'for every input' (looked for: loops, veiled, ifaces, maps, wideKeys, modest, calm, conditions, laid).
  DERIVED. THE GIVEN ROWS OF THIS SEAT. 3 by the template 'for every input the law returns true; each argument reads behind the call as it read before'; 0 by the template 'total and deterministic' (their statements: Qxb6617110aTotals.lean).
  GIVEN WITH THE SEED: the statements are not yours to turn. If you find one false, say at which input.
  Laid BY PROGRAM, IN A SANDBOX (cutbox-rows.mjs): the forced cells as the released guide's own fill.sh prints them over the translation 1dfc6c7fa8312fa5… (all of the seat's roots in one cut). By AI agents, Wed Nov 11 2026. No macro, syntax, notation, axiom, sorry.
-/
import Derived.Test.Qxb6617110aChecked
import GoSem.Claim
import GoSem.ClaimJoined
import GoSem.ClaimMapViews
import Derived.JoinedTies
import Derived.KernelRfl
namespace Go.Proofs.Qxb6617110a
/- THE CELL 'sum', in the pinned program and in every row, IS THE sha256 OF THE DUMP (.gsa) THAT Qxb6617110aProg.lean LOADS. Nothing in Lean hashes anything: it is a label: what it is worth is what the hold of that sum in a sandbox is worth. -/
noncomputable def Try.pinned : Pinned := { name := "qxb6617110a", sum := "1dfc6c7fa8312fa589cd67297b498c6a3894eacc5ad76dcec1904008257cb790", checked := Try.checked }
namespace Rows
def none {H : Type} : Left H := { results := [], args := [] }

/-- 'zzlaws_quorum_b1.FnSendersSpreadThenAdd': WHATEVER THE INPUT: true; the input reads as it did. -/
def fnSendersSpreadThenAddSpec : ChangeSpec := { name := "fnSendersSpreadThenAdd", fn := fun _ => fun
  | [d1, d2, d3, d4, d5] => { results := [.lit (.bool true)], args := [d1, d2, d3, d4, d5] }
  | _ => none }
def fnSendersSpreadThenAddRow : OpenClaim := { program := "qxb6617110a", sum := "1dfc6c7fa8312fa589cd67297b498c6a3894eacc5ad76dcec1904008257cb790", func := "example.com/asyncord/asyncord/zzlaws_quorum_b1.FnSendersSpreadThenAdd", spec := "fnSendersSpreadThenAdd", inPlace := ["slices.overlaps[uint32]"], apart := false }
def FnSendersSpreadThenAddSaid : Prop := fnSendersSpreadThenAddRow.holds Try.pinned (OpenSpec.ofChange fnSendersSpreadThenAddSpec)

/-- ITS FALSE NEIGHBOUR: 'it returns false'. Refute it at one input. -/
def fnSendersSpreadThenAddWrong : ChangeSpec := { name := "fnSendersSpreadThenAdd", fn := fun _ => fun
  | [d1, d2, d3, d4, d5] => { results := [.lit (.bool false)], args := [d1, d2, d3, d4, d5] }
  | _ => none }
def FnSendersSpreadThenAddWrongFalsely : Prop := fnSendersSpreadThenAddRow.holds Try.pinned (OpenSpec.ofChange fnSendersSpreadThenAddWrong)

/-- 'zzlaws_quorum_b1.FnSendersAddTwoInEitherOrder': WHATEVER THE INPUT: true; the input reads as it did. -/
def fnSendersAddTwoInEitherOrderSpec : ChangeSpec := { name := "fnSendersAddTwoInEitherOrder", fn := fun _ => fun
  | [d1, d2, d3, d4, d5, d6] => { results := [.lit (.bool true)], args := [d1, d2, d3, d4, d5, d6] }
  | _ => none }
def fnSendersAddTwoInEitherOrderRow : OpenClaim := { program := "qxb6617110a", sum := "1dfc6c7fa8312fa589cd67297b498c6a3894eacc5ad76dcec1904008257cb790", func := "example.com/asyncord/asyncord/zzlaws_quorum_b1.FnSendersAddTwoInEitherOrder", spec := "fnSendersAddTwoInEitherOrder", inPlace := ["slices.overlaps[uint32]"], apart := false }
def FnSendersAddTwoInEitherOrderSaid : Prop := fnSendersAddTwoInEitherOrderRow.holds Try.pinned (OpenSpec.ofChange fnSendersAddTwoInEitherOrderSpec)

/-- ITS FALSE NEIGHBOUR: 'it returns false'. Refute it at one input. -/
def fnSendersAddTwoInEitherOrderWrong : ChangeSpec := { name := "fnSendersAddTwoInEitherOrder", fn := fun _ => fun
  | [d1, d2, d3, d4, d5, d6] => { results := [.lit (.bool false)], args := [d1, d2, d3, d4, d5, d6] }
  | _ => none }
def FnSendersAddTwoInEitherOrderWrongFalsely : Prop := fnSendersAddTwoInEitherOrderRow.holds Try.pinned (OpenSpec.ofChange fnSendersAddTwoInEitherOrderWrong)

/-- 'zzlaws_quorum_b1.FnSendersAddScriptFromEmpty': WHATEVER THE INPUT: true; the input reads as it did. -/
def fnSendersAddScriptFromEmptySpec : ChangeSpec := { name := "fnSendersAddScriptFromEmpty", fn := fun _ => fun
  | [d1, d2] => { results := [.lit (.bool true)], args := [d1, d2] }
  | _ => none }
def fnSendersAddScriptFromEmptyRow : OpenClaim := { program := "qxb6617110a", sum := "1dfc6c7fa8312fa589cd67297b498c6a3894eacc5ad76dcec1904008257cb790", func := "example.com/asyncord/asyncord/zzlaws_quorum_b1.FnSendersAddScriptFromEmpty", spec := "fnSendersAddScriptFromEmpty", inPlace := ["slices.overlaps[uint32]"], apart := false }
def FnSendersAddScriptFromEmptySaid : Prop := fnSendersAddScriptFromEmptyRow.holds Try.pinned (OpenSpec.ofChange fnSendersAddScriptFromEmptySpec)

/-- ITS FALSE NEIGHBOUR: 'it returns false'. Refute it at one input. -/
def fnSendersAddScriptFromEmptyWrong : ChangeSpec := { name := "fnSendersAddScriptFromEmpty", fn := fun _ => fun
  | [d1, d2] => { results := [.lit (.bool false)], args := [d1, d2] }
  | _ => none }
def FnSendersAddScriptFromEmptyWrongFalsely : Prop := fnSendersAddScriptFromEmptyRow.holds Try.pinned (OpenSpec.ofChange fnSendersAddScriptFromEmptyWrong)

end Rows
end Go.Proofs.Qxb6617110a
