import Derived.Test.Qxb6616658aFmtLaw
import Derived.Stop.CallBack
import Derived.Stop.IfaceNil
import GoSem.ClaimData
namespace Go.Proofs.Qxb6616658aFmt
open Go.RowKit Go.Extern.Stop Go.Stop Go.Extern

theorem Tryf.call44 (args : Array Value) (w : World) : (callFunc 44 args).run Tryf.prog w = ((FmtStop.errorf #[9, 117] #[30] args).run Tryf.prog w).andThen fun v w' => .ok (.value v) w' :=
  run_callFunc_extern Tryf.func44 (by kernel_rfl) (by kernel_rfl) (by kernel_rfl) (by kernel_rfl) args w
theorem Tryf.guard (name : String) (w : World) : (FmtStop.guard name).run Tryf.prog w = .ok () w := by kernel_rfl
def fmtMagic : ByteArray := ⟨#[110, 111, 116, 32, 97, 32, 108, 105, 98, 112, 99, 97, 112, 32, 99, 97, 112, 116, 117, 114, 101, 58, 32, 117, 110, 107,
  110, 111, 119, 110, 32, 109, 97, 103, 105, 99, 32, 110, 117, 109, 98, 101, 114, 32, 37, 35, 48, 56, 120]⟩
def fmtVersion : ByteArray := ⟨#[108, 105, 98, 112, 99, 97, 112, 32, 102, 111, 114, 109, 97, 116, 32, 118, 101, 114, 115, 105, 111, 110, 32, 37, 100,
  46, 37, 100, 44, 32, 110, 111, 116, 32, 50, 46, 52]⟩
theorem Tryf.printMagic (w : World) : (FmtDoors.printed fmtMagic 1).run Tryf.prog w = .ok [(0, 120, true)] w := by kernel_rfl
theorem Tryf.printVersion (w : World) : (FmtDoors.printed fmtVersion 2).run Tryf.prog w = .ok [(0, 100, false), (1, 100, false)] w := by kernel_rfl
theorem Tryf.hasMagic : fmtMagic.data.contains 37 = true := by kernel_rfl
def sh25 : List UInt8 := FmtStop.intCode .u32 :: FmtStop.pack "uint32".toUTF8.data.toList
def sh104 : List UInt8 := FmtStop.intCode .u16 :: FmtStop.pack "uint16".toUTF8.data.toList
theorem Tryf.op25 (name : String) (x : Int) (w : World) : (FmtStop.operand name true 120 true (.iface 25 (.int .u32 x))).run Tryf.prog w = .ok (sh25, digits 8 (x % 2 ^ 64).toNat) w := by kernel_rfl
theorem Tryf.op104 (name : String) (x : Int) (w : World) : (FmtStop.operand name true 100 false (.iface 104 (.int .u16 x))).run Tryf.prog w = .ok (sh104, digits 8 (x % 2 ^ 64).toNat) w := by kernel_rfl
theorem Tryf.ptrE (w : World) : (FmtStop.ptrTo "errors.errorString").run Tryf.prog w = .ok 96 w := by kernel_rfl
theorem Tryf.elemE (w : World) : (elemOf 96).run Tryf.prog w = .ok 98 w := by kernel_rfl
attribute [local go_sem] Tryf.call44 Tryf.guard Tryf.printMagic Tryf.printVersion Tryf.op25 Tryf.op104 Tryf.ptrE Tryf.elemE Tryf.hasMagic

set_option maxRecDepth 100000 in
set_option maxHeartbeats 400000 in
theorem errorf_magic (F : Interp) (m : Int) (blk : Nat) (w : World) (hF : F.answers w.tape) (hc : w.cell? ⟨blk, 0, none⟩ = some (.iface 25 (.int .u32 m))) :
    Calls Tryf.prog 43 #[.string fmtMagic, .slice (some ⟨blk, 0, none⟩) 1 1] w fun e w' => (∃ a, e = .returned (.iface 96 (.pointer (some a)))) ∧ Below w.heap.size w w' := by
  have hF' := hF
  unfold Interp.answers at hF'
  go_enter Tryf.func43, Tryf.ntmps43
  go_wp2
  go_ret
  exact ⟨⟨_, rfl⟩, ((Below.refl _ _).alloc (Nat.le_refl _) _).drew⟩

set_option maxRecDepth 100000 in
set_option maxHeartbeats 400000 in
theorem errorf_version (F : Interp) (m1 m2 : Int) (blk : Nat) (w : World) (hF : F.answers w.tape) (hc : w.cell? ⟨blk, 0, none⟩ = some (.iface 104 (.int .u16 m1))) (hc1 : w.cell? ⟨blk, 1, none⟩ = some (.iface 104 (.int .u16 m2))) :
    Calls Tryf.prog 43 #[.string fmtVersion, .slice (some ⟨blk, 0, none⟩) 2 2] w fun e w' => (∃ a, e = .returned (.iface 96 (.pointer (some a)))) ∧ Below w.heap.size w w' := by
  have hF' := hF
  unfold Interp.answers at hF'
  go_enter Tryf.func43, Tryf.ntmps43
  go_wp2
  go_ret
  exact ⟨⟨_, rfl⟩, ((Below.refl _ _).alloc (Nat.le_refl _) _).drew⟩
end Go.Proofs.Qxb6616658aFmt
