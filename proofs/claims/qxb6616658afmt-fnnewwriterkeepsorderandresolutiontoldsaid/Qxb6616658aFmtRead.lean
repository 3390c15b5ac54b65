import Derived.Test.Qxb6616658aFmtLaw
import Derived.Laws.CopyRow
import Derived.Laws.CopyOwn
import Derived.Deep.QuietTactic
import Derived.BigQuiet
import Derived.RegionTactic
namespace Go.Proofs.Qxb6616658aFmt
open Go.RowKit

theorem Tryf.size5 : (Tryf.prog.info? 5).map (·.size) = some 1 := by kernel_rfl

set_option maxRecDepth 100000 in
set_option maxHeartbeats 400000 in
/-- (*bytes.Reader).Read behind the last byte. -/
theorem read_eof (R : Nat) (s : Option Addr) (n c : Nat) (i : Int) (p : Value) (ev : Value) (w : World) (hi : (n : Int) ≤ i)
    (c0 : w.cell? ⟨R, 0, none⟩ = some (.slice s n c)) (c1 : w.cell? ⟨R, 1, none⟩ = some (.int .i64 i)) (hE : w.cell? ⟨0, 0, none⟩ = some ev) :
    Calls Tryf.prog 75 #[.pointer (some ⟨R, 0, none⟩), p] w fun e w' => e = .returned (.tuple #[.int .i64 0, ev]) ∧ ∃ k, w' = w.drewN k := by
  go_enter Tryf.func75, Tryf.ntmps75
  go_wp2
  go_quiet (fail)
  go_wp2
  go_quiet (fail)
  go_wp2
  go_ret2
  exact ⟨rfl, _, World.drewN_drewN ..⟩

set_option maxRecDepth 100000 in
set_option maxHeartbeats 400000 in
/-- (*bytes.Reader).Read at the beginning, into 24 bytes. -/
theorem read_some (x : Nat → Int) (R B g n m : Nat) (old : Array Value) (w : World) (hn : 0 < n) (hn2 : n ≤ 1048576) (hm : m = Nat.min n 24) (hm2 : m ≤ 24) (hm3 : m ≤ n) (hRB : R < B) (hgR : g < R)
    (hR : w.heap[R]? = some (.cells #[.slice (some ⟨g, 0, none⟩) n n, .int .i64 0, .int .i64 (-1)] 89 (0, 0)))
    (hB : w.heap[B]? = some (.cells old 33 (0, 0))) (ho : old.size = 24)
    (hc : ∀ j, j < n → w.cell? ⟨g, j, none⟩ = some (.int .u8 (x j))) :
    Calls Tryf.prog 75 #[.pointer (some ⟨R, 0, none⟩), .slice (some ⟨B, 0, none⟩) 24 24] w fun e w' => e = .returned (.tuple #[.int .i64 m, .nilIface]) ∧ Below R w w' ∧ w'.heap.size = w.heap.size ∧
      w'.heap[R]? = some (.cells #[.slice (some ⟨g, 0, none⟩) n n, .int .i64 m, .int .i64 (-1)] 89 (0, 0)) ∧
      w'.heap[B]? = some (.cells (((List.range m).map fun j => Value.int .u8 (x j)) ++ old.toList.drop m).toArray 33 (0, 0)) := by
  have c0 : w.cell? ⟨R, 0, none⟩ = some (.slice (some ⟨g, 0, none⟩) n n) := by rw [cell_of_row _ _ _ _ _ _ hR]; rfl
  have c1 : w.cell? ⟨R, 1, none⟩ = some (.int .i64 0) := by rw [cell_of_row _ _ _ _ _ _ hR]; rfl
  have c2 : w.cell? ⟨R, 2, none⟩ = some (.int .i64 (-1)) := by rw [cell_of_row _ _ _ _ _ _ hR]; rfl
  have f1 : w.frozen? ⟨R, 1, none⟩ = false := frozen_of_row _ _ _ _ _ hR
  have f2 : w.frozen? ⟨R, 2, none⟩ = false := frozen_of_row _ _ _ _ _ hR
  have hBg : B ≠ g := by omega
  have h2R : (w.setCell ⟨R, 2, none⟩ (.int .i64 (-1))).heap[R]? = some (.cells #[.slice (some ⟨g, 0, none⟩) n n, .int .i64 0, .int .i64 (-1)] 89 (0, 0)) := heap_setCell_same w R 2 _ 89 _ hR
  have h2B : (w.setCell ⟨R, 2, none⟩ (.int .i64 (-1))).heap[B]? = some (.cells old 33 (0, 0)) := (heap_setCell_other w _ B _ (by simp; omega)).trans hB
  obtain ⟨nw, hnw⟩ : ∃ nw : Array Value, nw = (((List.range m).map fun j => Value.int .u8 (x j)) ++ old.toList.drop m).toArray := ⟨_, rfl⟩
  obtain ⟨W3, hW3⟩ : ∃ W3 : World, W3 = (w.setCell ⟨R, 2, none⟩ (.int .i64 (-1))).setRow B nw := ⟨_, rfl⟩
  have hcp : ∀ ty, (Builtin.copy_ #[22, 22] ty #[.slice (some ⟨B, 0, none⟩) 24 24, .slice (some ⟨g, 0, none⟩) n n]).run Tryf.prog (w.setCell ⟨R, 2, none⟩ (.int .i64 (-1))).drew.drew = .ok (.int .i64 m) W3.drew.drew := by
    intro ty
    have h := run_copy_row (P := Tryf.prog) (w.setCell ⟨R, 2, none⟩ (.int .i64 (-1))).drew.drew 22 22 ty 5 B 0 24 24 ⟨g, 0, none⟩ n n old 33 ((List.range m).map fun j => Value.int .u8 (x j)) Tryf.underlying22 Tryf.size5 h2B (by simpa using hm) (fun j v hv => by
      have hj : j < m := by have := (List.getElem?_eq_some_iff.1 hv).1; simpa using this
      have e : v = .int .u8 (x j) := by simpa [List.getElem?_range hj] using hv.symm
      subst e
      have hadd : (⟨g, 0, none⟩ : Addr).add j = ⟨g, j, none⟩ := by unfold Addr.add; split <;> simp_all
      rw [hadd]
      show (w.setCell ⟨R, 2, none⟩ (.int .i64 (-1))).cell? ⟨g, j, none⟩ = _
      rw [World.cell?_of_block (w := w) (heap_setCell_other w _ g _ (by simp; omega))]
      exact hc j (by omega)) (by simp; omega) (fun v hv => by
      obtain ⟨j, _, rfl⟩ := List.mem_map.1 hv; rfl)
    rw [h, hW3, hnw]
    simp [goInt]
    rfl
  have h3R : W3.heap[R]? = some (.cells #[.slice (some ⟨g, 0, none⟩) n n, .int .i64 0, .int .i64 (-1)] 89 (0, 0)) := by rw [hW3, setRow_other _ _ _ _ (by omega)]; exact h2R
  have h3B : W3.heap[B]? = some (.cells nw 33 (0, 0)) := by rw [hW3]; exact setRow_heap _ _ _ _ _ _ h2B
  have h3s : W3.heap.size = w.heap.size := by rw [hW3, setRow_size]; simp
  have h3b : Below R w W3 := by rw [hW3]; exact below_setRow ((Below.refl R w).setCell (p := ⟨R, 2, none⟩) (Nat.le_refl _) _) (by omega) _
  have d1 : W3.cell? ⟨R, 1, none⟩ = some (.int .i64 0) := by rw [cell_of_row _ _ _ _ _ _ h3R]; rfl
  have g1 : W3.frozen? ⟨R, 1, none⟩ = false := frozen_of_row _ _ _ _ _ h3R
  have H : Hid (W3.heap[R]? = some (.cells #[.slice (some ⟨g, 0, none⟩) n n, .int .i64 0, .int .i64 (-1)] 89 (0, 0)) ∧ W3.heap[B]? = some (.cells nw 33 (0, 0)) ∧ W3.heap.size = w.heap.size ∧ Below R w W3 ∧ nw = (((List.range m).map fun j => Value.int .u8 (x j)) ++ old.toList.drop m).toArray) := ⟨h3R, h3B, h3s, h3b, hnw⟩
  clear h3R h3B h3s h3b hW3
  clear hc hm h2R h2B hB hR hnw
  go_enter Tryf.func75, Tryf.ntmps75
  go_wp2
  go_region
  go_wp2
  go_region
  go_wp2
  go_ret2
  obtain ⟨h3R, h3B, h3s, h3b, hnw⟩ := H
  refine ⟨rfl, ((h3b.setCell (Nat.le_refl _) _).drew).drew, ?_, ?_, ?_⟩
  · show (W3.setCell _ _).heap.size = _
    simp [h3s]
  · exact heap_setCell_same W3 R 1 _ 89 _ h3R
  · rw [← hnw]
    exact (heap_setCell_other W3 _ B _ (by simp; omega)).trans h3B
end Go.Proofs.Qxb6616658aFmt
