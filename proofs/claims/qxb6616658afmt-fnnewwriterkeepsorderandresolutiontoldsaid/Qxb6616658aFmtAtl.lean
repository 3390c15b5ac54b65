import Derived.Test.Qxb6616658aFmtRead
import Derived.Test.Qxb6616658aFmtIs
import Derived.Deep.RegionWith
namespace Go.Proofs.Qxb6616658aFmt
open Go.RowKit

theorem Tryf.mRead (a : Addr) (w : World) : (method 269 59 (.pointer (some a)) "Read").run Tryf.prog w = .ok (75, .pointer (some a)) w := by kernel_rfl
theorem Tryf.nRead (a : Addr) (w : World) : (nilAhead 269 59 (.pointer (some a)) "Read").run Tryf.prog w = .ok (some false) w := by kernel_rfl

set_option maxRecDepth 100000 in
set_option maxHeartbeats 400000 in
/-- io.ReadAtLeast(r, buf, 24), r a *bytes.Reader at an empty slice. -/
theorem atleast_eof (R B : Nat) (s : Option Addr) (c : Nat) (a0 : Addr) (w : World) 
    (c0 : w.cell? ⟨R, 0, none⟩ = some (.slice s 0 c)) (c1 : w.cell? ⟨R, 1, none⟩ = some (.int .i64 0)) (hE : w.cell? ⟨0, 0, none⟩ = some (.iface 96 (.pointer (some a0)))) :
    Calls Tryf.prog 38 #[.iface 59 (.pointer (some ⟨R, 0, none⟩)), .slice (some ⟨B, 0, none⟩) 24 24, .int .i64 24] w fun e w' => e = .returned (.tuple #[.int .i64 0, .iface 96 (.pointer (some a0))]) ∧ ∃ k, w' = w.drewN k := by
  have hm := Tryf.mRead
  have hn := Tryf.nRead
  go_enter Tryf.func38, Tryf.ntmps38
  go_wp2
  refine wp_loop_rounds 2 ?_
  rw [rounds_succ]
  go_wp2
  go_region_with (go_at_call 75; refine (read_eof R s 0 c 0 _ (.iface 96 (.pointer (some a0))) _ ?_ ?_ ?_ ?_).mono ?_; (· simp); (· exact c0); (· exact c1); (· exact hE); rintro e w' ⟨rfl, k, rfl⟩)
  all_goals
    go_wp2
    rw [rounds_succ]
    go_wp2
    go_ret2
    exact ⟨rfl, _, rfl⟩

set_option maxRecDepth 100000 in
set_option maxHeartbeats 400000 in
/-- io.ReadAtLeast(r, buf, 24), r a *bytes.Reader at the beginning of 24 bytes or more. -/
theorem atleast_full (x : Nat → Int) (R B g n : Nat) (old : Array Value) (w : World) (hn : 24 ≤ n) (hn2 : n ≤ 1048576) (hRB : R < B) (hgR : g < R)
    (hR : w.heap[R]? = some (.cells #[.slice (some ⟨g, 0, none⟩) n n, .int .i64 0, .int .i64 (-1)] 89 (0, 0)))
    (hB : w.heap[B]? = some (.cells old 33 (0, 0))) (ho : old.size = 24)
    (hc : ∀ j, j < n → w.cell? ⟨g, j, none⟩ = some (.int .u8 (x j))) :
    Calls Tryf.prog 38 #[.iface 59 (.pointer (some ⟨R, 0, none⟩)), .slice (some ⟨B, 0, none⟩) 24 24, .int .i64 24] w fun e w' => e = .returned (.tuple #[.int .i64 24, .nilIface]) ∧ Below R w w' ∧ w'.heap.size = w.heap.size ∧
      w'.heap[B]? = some (.cells (rawA x) 33 (0, 0)) := by
  have hm := Tryf.mRead
  have hna := Tryf.nRead
  have HC : Hid (Calls Tryf.prog 75 #[.pointer (some ⟨R, 0, none⟩), .slice (some ⟨B, 0, none⟩) 24 24] w.drew fun e w' => e = .returned (.tuple #[.int .i64 24, .nilIface]) ∧ Hid (Below R w w' ∧ w'.heap.size = w.heap.size ∧ w'.heap[B]? = some (.cells (rawA x) 33 (0, 0)))) :=
    (read_some x R B g n 24 old w.drew (by omega) hn2 (Nat.min_eq_right hn).symm (by omega) hn hRB hgR hR hB ho hc).mono fun e w' ⟨he, h1, h2, h3, h4⟩ =>
      ⟨he, (Below.refl R w).drew.trans h1, h2, by rw [h4]; simp [ho, rawA, rawL]⟩
  clear hR hB ho hc
  go_enter Tryf.func38, Tryf.ntmps38
  go_wp2
  refine wp_loop_rounds 2 ?_
  rw [rounds_succ]
  go_wp2
  go_region_with (go_at_call 75; refine HC.out.mono ?_; rintro e w' ⟨rfl, HW⟩)
  all_goals
    go_wp2
    rw [rounds_succ]
    go_wp2
    go_ret2
    exact ⟨rfl, HW.out⟩

set_option maxRecDepth 100000 in
set_option maxHeartbeats 400000 in
/-- io.ReadAtLeast(r, buf, 24), r a *bytes.Reader at the beginning of 1 to 23 bytes. -/
theorem atleast_short (x : Nat → Int) (R B g n : Nat) (a0 a1 : Addr) (old : Array Value) (w : World) (hn0 : 0 < n) (hn : n < 24) (hRB : R < B) (hgR : g < R) (h1R : 1 < R)
    (hR : w.heap[R]? = some (.cells #[.slice (some ⟨g, 0, none⟩) n n, .int .i64 0, .int .i64 (-1)] 89 (0, 0)))
    (hB : w.heap[B]? = some (.cells old 33 (0, 0))) (ho : old.size = 24)
    (hc : ∀ j, j < n → w.cell? ⟨g, j, none⟩ = some (.int .u8 (x j)))
    (hE0 : w.cell? ⟨0, 0, none⟩ = some (.iface 96 (.pointer (some a0)))) (hE1 : w.cell? ⟨1, 0, none⟩ = some (.iface 96 (.pointer (some a1)))) :
    Calls Tryf.prog 38 #[.iface 59 (.pointer (some ⟨R, 0, none⟩)), .slice (some ⟨B, 0, none⟩) 24 24, .int .i64 24] w fun e w' => e = .returned (.tuple #[.int .i64 n, .iface 96 (.pointer (some a1))]) ∧ Below R w w' := by
  obtain ⟨i, hi, hcmp⟩ := Option.map_eq_some_iff.1 Tryf.isComp
  obtain ⟨j, hj, hjs⟩ := Option.map_eq_some_iff.1 Tryf.isSize
  have heq := fun w => run_eql_iface_ptr_same (P := Tryf.prog) w a0 Tryf.underlying30 Tryf.underlying96 hi hcmp hj
  have hm := Tryf.mRead
  have hna := Tryf.nRead
  have HC : Hid (Calls Tryf.prog 75 #[.pointer (some ⟨R, 0, none⟩), .slice (some ⟨B, 0, none⟩) 24 24] w.drew fun e w' => e = .returned (.tuple #[.int .i64 n, .nilIface]) ∧ Hid (Below R w w' ∧ w'.cell? ⟨R, 0, none⟩ = some (.slice (some ⟨g, 0, none⟩) n n) ∧ w'.cell? ⟨R, 1, none⟩ = some (.int .i64 n) ∧ w'.cell? ⟨0, 0, none⟩ = some (.iface 96 (.pointer (some a0))) ∧ w'.cell? ⟨1, 0, none⟩ = some (.iface 96 (.pointer (some a1))))) :=
    (read_some x R B g n n old w.drew hn0 (by omega) (Nat.min_eq_left (by omega)).symm (by omega) (Nat.le_refl _) hRB hgR hR hB ho hc).mono fun e w' ⟨he, h1, h2, h3, h4⟩ =>
      ⟨he, (Below.refl R w).drew.trans h1, by rw [cell_of_row _ _ _ _ _ _ h3]; rfl, by rw [cell_of_row _ _ _ _ _ _ h3]; rfl, (h1.cell (p := ⟨0, 0, none⟩) (by show 0 < R; omega)).trans hE0, (h1.cell (p := ⟨1, 0, none⟩) (by show 1 < R; omega)).trans hE1⟩
  clear hR hB ho hc hE0 hE1
  go_enter Tryf.func38, Tryf.ntmps38
  go_wp2
  refine wp_loop_rounds 3 ?_
  rw [rounds_succ]
  go_wp2
  go_region_with (go_at_call 75; refine HC.out.mono ?_; rintro e w1 ⟨rfl, HW⟩)
  all_goals
    go_wp2
    rw [rounds_succ]
    go_wp2
    obtain ⟨hb, k0, k1, k2, k3⟩ := HW
    have HB : Hid (Below R w w1) := hb
    clear hb HC
    go_region_with (go_at_call 75; refine (read_eof R (some ⟨g, 0, none⟩) n n n _ (.iface 96 (.pointer (some a0))) _ ?_ ?_ ?_ ?_).mono ?_; (· omega); (· exact k0); (· exact k1); (· exact k2); rintro e w2 ⟨rfl, k, rfl⟩)
    all_goals
      go_wp2
      rw [rounds_succ]
      go_wp2
      go_ret2
      exact ⟨rfl, below_drewN HB.out _⟩
end Go.Proofs.Qxb6616658aFmt
