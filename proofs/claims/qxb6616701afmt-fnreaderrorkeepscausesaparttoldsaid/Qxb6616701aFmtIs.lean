import Derived.Test.Qxb6616701aFmtRows
import Derived.WalkKit
import Derived.WalkSpells
import Derived.WalkLawsBesides
import Derived.LaidEql
import Derived.Stop.Asserts
import Derived.RowKitTokens
namespace Go.Proofs.Qxb6616701aFmt
open Go.RowKit Go.Extern.Stop Go.Stop Go.Extern

theorem Tryf.typeOfE (v : Value) (w : World) : (callFunc 18 #[.iface 38 v]).run Tryf.prog w = .ok (.value (.iface 44 (.agg #[.pointer (some ⟨3, 38, none⟩)]))) w := by kernel_rfl
theorem Tryf.typeOfW (v : Value) (w : World) : (callFunc 18 #[.iface 42 v]).run Tryf.prog w = .ok (.value (.iface 44 (.agg #[.pointer (some ⟨3, 42, none⟩)]))) w := by kernel_rfl
theorem Tryf.compE (w : World) : (callFunc 42 #[.agg #[.pointer (some ⟨3, 38, none⟩)]]).run Tryf.prog w = .ok (.value (.bool true)) w := by kernel_rfl
theorem Tryf.compW (w : World) : (callFunc 42 #[.agg #[.pointer (some ⟨3, 42, none⟩)]]).run Tryf.prog w = .ok (.value (.bool true)) w := by kernel_rfl
theorem Tryf.mComp (v : Value) (w : World) : (Go.method 191 44 v "Comparable").run Tryf.prog w = .ok (42, v) w := by kernel_rfl
theorem Tryf.mUnwrap (v : Value) (w : World) : (Go.method 191 42 v "Unwrap").run Tryf.prog w = .ok (38, v) w := by kernel_rfl
theorem Tryf.compInfoE : (Tryf.prog.info? 38).map (·.comparable) = some true := by kernel_rfl
theorem Tryf.sizeE : (Tryf.prog.info? 40).map (·.size) = some 1 := by kernel_rfl
theorem Tryf.compInfoW : (Tryf.prog.info? 42).map (·.comparable) = some true := by kernel_rfl
theorem Tryf.sizeW : (Tryf.prog.info? 76).map (·.size) = some 2 := by kernel_rfl
theorem Tryf.noIsE (v : Value) (xT : TypeId) (w : World) : (Instr.typeAssert (.iface 38 v) xT 46 true).run Tryf.prog w = .ok (.tuple #[.nilIface, .bool false]) w := run_typeAssert_lacksB Tryf.underlying46 (by kernel_rfl) (by kernel_rfl) v xT w
theorem Tryf.noUnwrapE (v : Value) (xT : TypeId) (w : World) : (Instr.typeAssert (.iface 38 v) xT 48 true).run Tryf.prog w = .ok (.tuple #[.nilIface, .bool false]) w := run_typeAssert_lacksB Tryf.underlying48 (by kernel_rfl) (by kernel_rfl) v xT w
theorem Tryf.noUnwrapsE (v : Value) (xT : TypeId) (w : World) : (Instr.typeAssert (.iface 38 v) xT 49 true).run Tryf.prog w = .ok (.tuple #[.nilIface, .bool false]) w := run_typeAssert_lacksB Tryf.underlying49 (by kernel_rfl) (by kernel_rfl) v xT w
theorem Tryf.noIsW (v : Value) (xT : TypeId) (w : World) : (Instr.typeAssert (.iface 42 v) xT 46 true).run Tryf.prog w = .ok (.tuple #[.nilIface, .bool false]) w := run_typeAssert_lacksB Tryf.underlying46 (by kernel_rfl) (by kernel_rfl) v xT w
theorem Tryf.hasUnwrapW (v : Value) (xT : TypeId) (w : World) : (Instr.typeAssert (.iface 42 v) xT 48 true).run Tryf.prog w = .ok (.tuple #[.iface 42 v, .bool true]) w := run_typeAssert_hasB Tryf.underlying48 (by kernel_rfl) v xT w

/-- '==' between two errors of errors.New's make. -/
theorem eqE_same (a : Addr) (w : World) : (binOp .eql 24 (.iface 38 (.pointer (some a))) (.iface 38 (.pointer (some a)))).run Tryf.prog w = .ok (.bool true) w := by
  obtain ⟨i, hi, hcmp⟩ := Option.map_eq_some_iff.1 Tryf.compInfoE
  obtain ⟨j, hj, hjs⟩ := Option.map_eq_some_iff.1 Tryf.sizeE
  exact run_eql_iface_ptr_same (P := Tryf.prog) w a Tryf.underlying24 Tryf.underlying38 hi hcmp hj
theorem eqW_same (a : Addr) (w : World) : (binOp .eql 24 (.iface 42 (.pointer (some a))) (.iface 42 (.pointer (some a)))).run Tryf.prog w = .ok (.bool true) w := by
  obtain ⟨i, hi, hcmp⟩ := Option.map_eq_some_iff.1 Tryf.compInfoW
  obtain ⟨j, hj, hjs⟩ := Option.map_eq_some_iff.1 Tryf.sizeW
  exact run_eql_iface_ptr_same (P := Tryf.prog) w a Tryf.underlying24 Tryf.underlying42 hi hcmp hj
/-- Plain rows: what '==' between two pointers asks. -/
def Plain (w : World) (a : Addr) : Prop := ∃ c t, w.heap[a.block]? = some (.cells c t (0, 0))
theorem eqE_other {a b : Addr} {w : World} (hne : a ≠ b) (ha : Plain w a) (hb : Plain w b) : (binOp .eql 24 (.iface 38 (.pointer (some a))) (.iface 38 (.pointer (some b)))).run Tryf.prog w = .ok (.bool false) w := by
  obtain ⟨i, hi, hcmp⟩ := Option.map_eq_some_iff.1 Tryf.compInfoE
  obtain ⟨j, hj, hjs⟩ := Option.map_eq_some_iff.1 Tryf.sizeE
  obtain ⟨_, _, ha⟩ := ha; obtain ⟨_, _, hb⟩ := hb
  exact run_eql_iface_ptr_other (P := Tryf.prog) w Tryf.underlying24 Tryf.underlying38 hi hcmp hj (by rw [hjs]; decide) hne ha hb
theorem eqW_other {a b : Addr} {w : World} (hne : a ≠ b) (ha : Plain w a) (hb : Plain w b) : (binOp .eql 24 (.iface 42 (.pointer (some a))) (.iface 42 (.pointer (some b)))).run Tryf.prog w = .ok (.bool false) w := by
  obtain ⟨i, hi, hcmp⟩ := Option.map_eq_some_iff.1 Tryf.compInfoW
  obtain ⟨j, hj, hjs⟩ := Option.map_eq_some_iff.1 Tryf.sizeW
  obtain ⟨_, _, ha⟩ := ha; obtain ⟨_, _, hb⟩ := hb
  exact run_eql_iface_ptr_other (P := Tryf.prog) w Tryf.underlying24 Tryf.underlying42 hi hcmp hj (by rw [hjs]; decide) hne ha hb
theorem eqWE (a b : Addr) (w : World) : (binOp .eql 24 (.iface 42 (.pointer (some a))) (.iface 38 (.pointer (some b)))).run Tryf.prog w = .ok (.bool false) w :=
  run_eql_iface_types (P := Tryf.prog) 42 38 (.pointer (some a)) (.pointer (some b)) Tryf.underlying24 (by decide) w
theorem eqEW (a b : Addr) (w : World) : (binOp .eql 24 (.iface 38 (.pointer (some a))) (.iface 42 (.pointer (some b)))).run Tryf.prog w = .ok (.bool false) w :=
  run_eql_iface_types (P := Tryf.prog) 38 42 (.pointer (some a)) (.pointer (some b)) Tryf.underlying24 (by decide) w

attribute [local go_sem] Tryf.typeOfE Tryf.typeOfW Tryf.compE Tryf.compW Tryf.mComp Tryf.mUnwrap Tryf.noIsE Tryf.noUnwrapE Tryf.noUnwrapsE Tryf.noIsW Tryf.hasUnwrapW eqE_same eqW_same eqWE eqEW

set_option maxRecDepth 100000 in
set_option maxHeartbeats 400000 in
/-- errors.Is(out, t): out wraps c, both c and t errors of errors.New's make. -/
theorem is_wrap (o : Nat) (c t : Addr) (b : Bool) (w : World) (h1 : w.cell? ⟨o, 1, none⟩ = some (.iface 38 (.pointer (some c))))
    (hq : (binOp .eql 24 (.iface 38 (.pointer (some c))) (.iface 38 (.pointer (some t)))).run Tryf.prog w = .ok (.bool b) w) :
    Calls Tryf.prog 15 #[.iface 42 (.pointer (some ⟨o, 0, none⟩)), .iface 38 (.pointer (some t))] w fun e w' => e = .returned (.bool b) ∧ w' = w := by
  cases b
  all_goals
    go_enter Tryf.func15, Tryf.ntmps15
    go_wp2
    refine wp_loop_rounds 2 ?_
    rw [rounds_succ]
    go_wp2
    rw [rounds_succ]
    go_wp2
    go_ret
    exact ⟨rfl, rfl⟩

set_option maxRecDepth 100000 in
set_option maxHeartbeats 400000 in
/-- errors.Is(out2, t): out2 wraps out1, which wraps c. -/
theorem is_wrap2 (o2 o1 : Nat) (c t : Addr) (b : Bool) (w : World) (h2 : w.cell? ⟨o2, 1, none⟩ = some (.iface 42 (.pointer (some ⟨o1, 0, none⟩)))) (h1 : w.cell? ⟨o1, 1, none⟩ = some (.iface 38 (.pointer (some c))))
    (hq : (binOp .eql 24 (.iface 38 (.pointer (some c))) (.iface 38 (.pointer (some t)))).run Tryf.prog w = .ok (.bool b) w) :
    Calls Tryf.prog 15 #[.iface 42 (.pointer (some ⟨o2, 0, none⟩)), .iface 38 (.pointer (some t))] w fun e w' => e = .returned (.bool b) ∧ w' = w := by
  cases b
  all_goals
    go_enter Tryf.func15, Tryf.ntmps15
    go_wp2
    refine wp_loop_rounds 3 ?_
    rw [rounds_succ]
    go_wp2
    rw [rounds_succ]
    go_wp2
    rw [rounds_succ]
    go_wp2
    go_ret
    exact ⟨rfl, rfl⟩

set_option maxRecDepth 100000 in
set_option maxHeartbeats 400000 in
/-- errors.Is(c, out): c of errors.New's make. -/
theorem is_back (c : Addr) (o : Nat) (w : World) :
    Calls Tryf.prog 15 #[.iface 38 (.pointer (some c)), .iface 42 (.pointer (some ⟨o, 0, none⟩))] w fun e w' => e = .returned (.bool false) ∧ w' = w := by
  go_enter Tryf.func15, Tryf.ntmps15
  go_wp2
  refine wp_loop_rounds 1 ?_
  rw [rounds_succ]
  go_wp2
  go_ret
  exact ⟨rfl, rfl⟩

set_option maxRecDepth 100000 in
set_option maxHeartbeats 400000 in
/-- errors.Is(out2, out1): out2 wraps out1. -/
theorem is_next (o2 o1 : Nat) (w : World) (h2 : w.cell? ⟨o2, 1, none⟩ = some (.iface 42 (.pointer (some ⟨o1, 0, none⟩)))) (hne : o2 ≠ o1) (p2 : Plain w ⟨o2, 0, none⟩) (p1 : Plain w ⟨o1, 0, none⟩) :
    Calls Tryf.prog 15 #[.iface 42 (.pointer (some ⟨o2, 0, none⟩)), .iface 42 (.pointer (some ⟨o1, 0, none⟩))] w fun e w' => e = .returned (.bool true) ∧ w' = w := by
  have hq := eqW_other (a := ⟨o2, 0, none⟩) (b := ⟨o1, 0, none⟩) (fun e => hne (congrArg Addr.block e)) p2 p1
  go_enter Tryf.func15, Tryf.ntmps15
  go_wp2
  refine wp_loop_rounds 2 ?_
  rw [rounds_succ]
  go_wp2
  rw [rounds_succ]
  go_wp2
  go_ret
  exact ⟨rfl, rfl⟩

set_option maxRecDepth 100000 in
set_option maxHeartbeats 400000 in
/-- errors.Is(outA, outB), two wraps. -/
theorem is_apart (oA oB : Nat) (c : Addr) (w : World) (h1 : w.cell? ⟨oA, 1, none⟩ = some (.iface 38 (.pointer (some c)))) (hne : oA ≠ oB) (pA : Plain w ⟨oA, 0, none⟩) (pB : Plain w ⟨oB, 0, none⟩) :
    Calls Tryf.prog 15 #[.iface 42 (.pointer (some ⟨oA, 0, none⟩)), .iface 42 (.pointer (some ⟨oB, 0, none⟩))] w fun e w' => e = .returned (.bool false) ∧ w' = w := by
  have hq := eqW_other (a := ⟨oA, 0, none⟩) (b := ⟨oB, 0, none⟩) (fun e => hne (congrArg Addr.block e)) pA pB
  go_enter Tryf.func15, Tryf.ntmps15
  go_wp2
  refine wp_loop_rounds 2 ?_
  rw [rounds_succ]
  go_wp2
  rw [rounds_succ]
  go_wp2
  go_ret
  exact ⟨rfl, rfl⟩

end Go.Proofs.Qxb6616701aFmt
