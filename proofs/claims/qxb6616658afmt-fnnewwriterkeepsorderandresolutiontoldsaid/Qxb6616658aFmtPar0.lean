import Derived.Test.Qxb6616658aFmtPcap
import Derived.Test.Qxb6616658aFmtErrf
import Derived.Laws.ResultCell
import Derived.Laws.CopyOwn
namespace Go.Proofs.Qxb6616658aFmt
open Go.RowKit Go.Extern.Stop Go.Stop Go.Extern

theorem wpList_build_eq {P : Program} {ops : Array Oper} {rest : List Oper} {o : Oper} {a : Act} {w : World} {Q : Exit → Act → World → Prop} (hg : o.guard = none) (t : TypeId) (parts : Array (Nat × Operand)) (ho : o.op = .build t parts)
    (L : List (Nat × Value)) (cells : Array Value) (hb : P.built t L = some cells) (hp : (parts.map fun (i, x) => (i, a.eval x)).toList = L)
    (h : wpList P ops Q rest (a.put o.dst (.agg cells)) w) : wpList P ops Q (o :: rest) a w :=
  wpList_build hg t parts ho (by rw [hp, hb]; rfl) (by rw [hp, hb]; exact h)

theorem leU32n (x : Nat → Int) (i g n c : Nat) (w : World) (hn : 4 ≤ n) (hx : ∀ j, 0 ≤ x j ∧ x j ≤ 255) (hc : ∀ j, i ≤ j → j < i + 4 → w.cell? ⟨g, j, none⟩ = some (.int .u8 (x j))) :
    Calls Tryf.prog 41 #[.agg #[], .slice (some ⟨g, i, none⟩) n c] w fun e w' => e = .returned (.int .u32 (le4 x i)) ∧ w' = (w.alloc (.cells #[] 100)).drew :=
  leU32 g i n c _ _ _ _ w hn (hx i) (hx (i + 1)) (hx (i + 2)) (hx (i + 3)) (hc i (by omega) (by omega)) (hc (i + 1) (by omega) (by omega)) (hc (i + 2) (by omega) (by omega)) (hc (i + 3) (by omega) (by omega))
theorem leU16n (x : Nat → Int) (i g n c : Nat) (w : World) (hn : 2 ≤ n) (hx : ∀ j, 0 ≤ x j ∧ x j ≤ 255) (hc : ∀ j, i ≤ j → j < i + 2 → w.cell? ⟨g, j, none⟩ = some (.int .u8 (x j))) :
    Calls Tryf.prog 86 #[.agg #[], .slice (some ⟨g, i, none⟩) n c] w fun e w' => e = .returned (.int .u16 (le2 x i)) ∧ w' = (w.alloc (.cells #[] 100)).drew :=
  leU16 g i n c _ _ w hn (hx i) (hx (i + 1)) (hc i (by omega) (by omega)) (hc (i + 1) (by omega) (by omega))
theorem beU16n (x : Nat → Int) (i g n c : Nat) (w : World) (hn : 2 ≤ n) (hx : ∀ j, 0 ≤ x j ∧ x j ≤ 255) (hc : ∀ j, i ≤ j → j < i + 2 → w.cell? ⟨g, j, none⟩ = some (.int .u8 (x j))) :
    Calls Tryf.prog 93 #[.agg #[], .slice (some ⟨g, i, none⟩) n c] w fun e w' => e = .returned (.int .u16 (be2 x i)) ∧ w' = (w.alloc (.cells #[] 102)).drew :=
  (beU16 g i n c _ _ w hn (hx i) (hx (i + 1)) (hc i (by omega) (by omega)) (hc (i + 1) (by omega) (by omega))).mono fun e w' ⟨he, hw⟩ => ⟨by rw [he]; unfold be2; congr 2; omega, hw⟩

theorem hdrA_set24 (x : Nat → Int) (o v : Value) (n : Bool) : (hdrA x o n).setIfInBounds 24 v = hdrA x v n := by kernel_rfl
theorem hdrA_set25 (x : Nat → Int) (o : Value) (n b : Bool) : (hdrA x o n).setIfInBounds 25 (.bool b) = hdrA x o b := by kernel_rfl
theorem heap_up {w : World} {o v : Obj} {k : Nat} (h : w.heap[k]? = some v) : (w.alloc o).heap[k]? = some v := by
  rw [Below.heap_alloc w o k (Array.getElem?_eq_some_iff.1 h).1]; exact h
theorem heap_at (w : World) (o : Obj) (k : Nat) (h : k = w.heap.size) : (w.alloc o).heap[k]? = some o := by subst h; exact heap_alloc_new w o
theorem results_row_tmp {P : Program} {fn : Func} {p u : Tmp} {ty : TypeId} (h : fn.results = #[.cell p ty, .tmp u]) (tmps : Array Value) (w : World) (g : Nat) (t : TypeId) (cs : Array Value) (fr : Nat × Nat) (d : TypeDesc) (v : Value)
    (hp : tmps.getD p undef = .pointer (some ⟨g, 0, none⟩)) (hv : tmps.getD u undef = v) (hg : w.heap[g]? = some (.cells cs t fr))
    (hu : P.underlying ty = some d) (hd : (match d with | .struct _ | .array _ _ => true | _ => false) = true) (hi : (P.info? ty).map (·.size) = some cs.size) :
    (results fn tmps).run P w = .ok (.tuple #[.agg cs, v]) w := by
  rw [results_cell_tmp h, hp, hv]
  simp [asAddr, run_loadVar_row w g t ty cs fr d hg hu hd hi]
theorem built0 (x : Nat → Int) : Tryf.prog.built 37 [(0, .agg (rawA x))] = some (hdrA x .nilIface false) := by kernel_rfl
theorem builtZ : Tryf.prog.built 37 [] = some (hdrA (fun _ => 0) .nilIface false) := by kernel_rfl

set_option maxRecDepth 100000 in
set_option maxHeartbeats 400000 in
theorem errors_new (s : ByteArray) (w : World) : Calls Tryf.prog 36 #[.string s] w fun e w' => e = .returned (.iface 96 (.pointer (some ⟨w.heap.size, 0, none⟩))) ∧ w' = w.alloc (.cells #[.string s] 98) := by
  go_enter Tryf.func36, Tryf.ntmps36
  go_wp2
  go_ret
  exact ⟨rfl, rfl⟩

end Go.Proofs.Qxb6616658aFmt
