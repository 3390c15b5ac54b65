import Derived.Test.Qxb6616701aFmtRows
import Derived.WalkKit
import Derived.WalkSpells
import Derived.WalkLawsBesides
import Derived.Stop.CallBack
import Derived.Stop.IfaceNil
import GoSem.ClaimData
namespace Go.Proofs.Qxb6616701aFmt
open Go.RowKit Go.Extern.Stop Go.Stop Go.Extern

theorem Tryf.call20 (args : Array Value) (w : World) : (callFunc 20 args).run Tryf.prog w = ((FmtStop.errorf #[9, 41] #[24] args).run Tryf.prog w).andThen fun v w' => .ok (.value v) w' :=
  run_callFunc_extern Tryf.func20 (by kernel_rfl) (by kernel_rfl) (by kernel_rfl) (by kernel_rfl) args w
theorem Tryf.guard (name : String) (w : World) : (FmtStop.guard name).run Tryf.prog w = .ok () w := by kernel_rfl
def fmtEnd : ByteArray := ⟨#[37, 119, 58, 32, 116, 104, 101, 32, 115, 116, 114, 101, 97, 109, 32, 101, 110, 100, 115, 32, 105, 110, 115, 105, 100, 101, 32, 97, 32, 109, 101, 115, 115, 97, 103, 101]⟩
def fmtRead : ByteArray := ⟨#[114, 101, 97, 100, 105, 110, 103, 32, 116, 104, 101, 32, 115, 116, 114, 101, 97, 109, 58, 32, 37, 119]⟩
theorem Tryf.printEnd (w : World) : (FmtDoors.printed fmtEnd 1).run Tryf.prog w = .ok [(0, 119, false)] w := by kernel_rfl
theorem Tryf.printRead (w : World) : (FmtDoors.printed fmtRead 1).run Tryf.prog w = .ok [(0, 119, false)] w := by kernel_rfl
theorem Tryf.ptrW (w : World) : (FmtStop.ptrTo "fmt.wrapError").run Tryf.prog w = .ok 42 w := by kernel_rfl
theorem Tryf.elemW (w : World) : (elemOf 42).run Tryf.prog w = .ok 76 w := by kernel_rfl
theorem Tryf.isErrE (w : World) : (FmtDoors.textMethod 38 "Error").run Tryf.prog w = .ok true w := by kernel_rfl
theorem Tryf.isErrW (w : World) : (FmtDoors.textMethod 42 "Error").run Tryf.prog w = .ok true w := by kernel_rfl
theorem Tryf.strE (w : World) : (typeStr 38).run Tryf.prog w = .ok Tryf.t38.str w := by kernel_rfl
theorem Tryf.strW (w : World) : (typeStr 42).run Tryf.prog w = .ok Tryf.t42.str w := by kernel_rfl
theorem Tryf.opE (name : String) (a : Addr) (s : ByteArray) (w : World) (hc : w.cell? a = some (.string s)) :
    (FmtStop.operand name true 119 false (.iface 38 (.pointer (some a)))).run Tryf.prog w = .ok (14 :: FmtStop.pack Tryf.t38.str.toUTF8.data.toList, s.data.toList) w := by
  have d2 : Tryf.t38.desc = .pointer 40 := rfl
  have d3 : Tryf.t40.desc = .named "errors.errorString" 39 := rfl
  simp [FmtStop.operand, Tryf.strE, d2, d3, run_load, hc]
theorem Tryf.opW (name : String) (a : Addr) (s : ByteArray) (w : World) (hc : w.cell? a = some (.string s)) :
    (FmtStop.operand name true 119 false (.iface 42 (.pointer (some a)))).run Tryf.prog w = .ok (14 :: FmtStop.pack Tryf.t42.str.toUTF8.data.toList, s.data.toList) w := by
  have d2 : Tryf.t42.desc = .pointer 76 := rfl
  have d3 : Tryf.t76.desc = .named "fmt.wrapError" 75 := rfl
  simp [FmtStop.operand, Tryf.strW, d2, d3, run_load, hc]
attribute [local go_sem] Tryf.call20 Tryf.guard Tryf.printEnd Tryf.printRead Tryf.ptrW Tryf.elemW Tryf.isErrE Tryf.isErrW

set_option maxRecDepth 100000 in
set_option maxHeartbeats 400000 in
theorem errorf_end (F : Interp) (m : Addr) (s : ByteArray) (blk : Nat) (w : World) (hF : F.answers w.tape) (hc : w.cell? ⟨blk, 0, none⟩ = some (.iface 38 (.pointer (some m)))) (hs : w.cell? m = some (.string s)) :
    Calls Tryf.prog 17 #[.string fmtEnd, .slice (some ⟨blk, 0, none⟩) 1 1] w fun e w' => ∃ t, e = .returned (.iface 42 (.pointer (some ⟨w.heap.size, 0, none⟩))) ∧ w' = (w.alloc (.cells #[.string t, .iface 38 (.pointer (some m))] 76)).drew := by
  have hF' := hF
  unfold Interp.answers at hF'
  have hop := fun name => Tryf.opE name m s w hs
  go_enter Tryf.func17, Tryf.ntmps17
  go_wp2
  go_ret
  exact ⟨_, rfl, rfl⟩
set_option maxRecDepth 100000 in
set_option maxHeartbeats 400000 in
theorem errorf_readE (F : Interp) (m : Addr) (s : ByteArray) (blk : Nat) (w : World) (hF : F.answers w.tape) (hc : w.cell? ⟨blk, 0, none⟩ = some (.iface 38 (.pointer (some m)))) (hs : w.cell? m = some (.string s)) :
    Calls Tryf.prog 17 #[.string fmtRead, .slice (some ⟨blk, 0, none⟩) 1 1] w fun e w' => ∃ t, e = .returned (.iface 42 (.pointer (some ⟨w.heap.size, 0, none⟩))) ∧ w' = (w.alloc (.cells #[.string t, .iface 38 (.pointer (some m))] 76)).drew := by
  have hF' := hF
  unfold Interp.answers at hF'
  have hop := fun name => Tryf.opE name m s w hs
  go_enter Tryf.func17, Tryf.ntmps17
  go_wp2
  go_ret
  exact ⟨_, rfl, rfl⟩
set_option maxRecDepth 100000 in
set_option maxHeartbeats 400000 in
theorem errorf_readW (F : Interp) (m : Addr) (s : ByteArray) (blk : Nat) (w : World) (hF : F.answers w.tape) (hc : w.cell? ⟨blk, 0, none⟩ = some (.iface 42 (.pointer (some m)))) (hs : w.cell? m = some (.string s)) :
    Calls Tryf.prog 17 #[.string fmtRead, .slice (some ⟨blk, 0, none⟩) 1 1] w fun e w' => ∃ t, e = .returned (.iface 42 (.pointer (some ⟨w.heap.size, 0, none⟩))) ∧ w' = (w.alloc (.cells #[.string t, .iface 42 (.pointer (some m))] 76)).drew := by
  have hF' := hF
  unfold Interp.answers at hF'
  have hop := fun name => Tryf.opW name m s w hs
  go_enter Tryf.func17, Tryf.ntmps17
  go_wp2
  go_ret
  exact ⟨_, rfl, rfl⟩
end Go.Proofs.Qxb6616701aFmt
