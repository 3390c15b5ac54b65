import Derived.Test.Qxb6617110aRows
import Derived.WalkKit
import Derived.WalkSpells
import Derived.WalkLawsBesides
import Derived.Deep.OwnRows
import Derived.Deep.QuietTactic
import Derived.BigQuiet
import Derived.RegionTactic
import Derived.Laws.Rows
import Derived.Stop.LaidErr
namespace Go.Proofs.Qxb6617110a
open Go.RowKit

theorem mkHid {p : Prop} (h : p) : Hid p := h

/-- The clone's cells behind k rounds. -/
def clA (kd : IntKind) (x : Nat → Int) (n k : Nat) : Array Value := ((List.range n).map fun j => if j < k then Value.int kd (x j) else Value.int kd 0).toArray
theorem clA_size (kd : IntKind) (x : Nat → Int) (n k : Nat) : (clA kd x n k).size = n := by simp [clA]
theorem clA_get (kd : IntKind) (x : Nat → Int) (n k j : Nat) (h : j < n) : (clA kd x n k)[j]? = some (if j < k then Value.int kd (x j) else Value.int kd 0) := by
  simp [clA, List.getElem?_range h]
theorem clA_step (kd : IntKind) (x : Nat → Int) (n k : Nat) (h : k < n) : (clA kd x n k).setIfInBounds k (.int kd (x k)) = clA kd x n (k + 1) := by
  apply Array.ext_getElem?
  intro j
  rw [Array.getElem?_setIfInBounds, clA_size]
  by_cases hj : j < n
  · rw [clA_get _ _ _ _ _ hj, clA_get _ _ _ _ _ hj]
    by_cases e : k = j
    · subst e; simp [h]
    · rw [if_neg e]
      by_cases h2 : j < k
      · rw [if_pos h2, if_pos (by omega)]
      · rw [if_neg h2, if_neg (by omega)]
  · rw [if_neg (by omega)]
    have h1 : (clA kd x n k)[j]? = none := by rw [Array.getElem?_eq_none]; rw [clA_size]; omega
    have h2 : (clA kd x n (k + 1))[j]? = none := by rw [Array.getElem?_eq_none]; rw [clA_size]; omega
    rw [h1, h2]
theorem clA_zero (kd : IntKind) (x : Nat → Int) (n : Nat) : madeCells #[.int kd 0] n = clA kd x n 0 := by
  apply Array.ext_getElem?
  intro j
  by_cases hj : j < n
  · rw [clA_get _ _ _ _ _ hj]; simp [madeCells, hj, Nat.mod_one]
  · rw [Array.getElem?_eq_none, Array.getElem?_eq_none]
    · rw [clA_size]; omega
    · rw [size_madeCells]; omega
theorem cl_cells (kd : IntKind) (t : TypeId) (x : Nat → Int) (n : Nat) (w : World) : ∀ j, j < n → (w.alloc (.cells (clA kd x n n) t)).cell? ⟨w.heap.size, j, none⟩ = some (.int kd (x j)) := by
  intro j hj
  rw [cell_of_row _ _ _ _ _ _ (heap_alloc_new w _), clA_get kd x n n j hj, if_pos hj]

theorem Try.info46 : (Try.prog.info? 46).map (fun i => (i.zero, i.size, i.bytes)) = some (some (.int .u32 0), 1, 4) := by kernel_rfl
theorem Try.info47 : (Try.prog.info? 47).map (fun i => (i.zero, i.size, i.bytes)) = some (some (.int .u64 0), 1, 8) := by kernel_rfl
theorem Try.info3 : (Try.prog.info? 3).map (fun i => (i.zero, i.size, i.bytes)) = some (some (.int .i64 0), 1, 8) := by kernel_rfl

set_option maxRecDepth 100000 in
set_option maxHeartbeats 400000 in
theorem clone8_nil (w : World) : Calls Try.prog 8 #[.slice none 0 0] w fun x w' => x = .returned (.slice none 0 0) ∧ w = w' := by
  have hs := Lib.run_eql_slice_nil (P := Try.prog)
  go_enter Try.func8, Try.ntmps8
  go_wp2
  go_ret
  exact ⟨rfl, rfl⟩

set_option maxRecDepth 100000 in
set_option maxHeartbeats 400000 in
theorem clone8_zero (x : Nat → Int) (a : Addr) (c : Nat) (w : World) :
    Calls Try.prog 8 #[.slice (some a) 0 c] w fun e w' => e = .returned (.slice (some ⟨w.heap.size, 0, none⟩) 0 0) ∧ w.alloc (.cells (clA .u32 x 0 0) 46) = w' := by
  have hmk : ∀ w, (Instr.makeSlice 22 (.int .i64 0) (.int .i64 0)).run Try.prog w = .ok (.slice (some ⟨w.heap.size, 0, none⟩) 0 0) (w.alloc (.cells (madeCells #[.int .u32 0] 0) 46)) := run_make_row' (P := Try.prog) 22 46 (.int .u32 0) 4 Try.underlying22 Try.info46 rfl .i64 .i64 0 (by omega) (by omega)
  have hs := Lib.run_eql_slice_nil (P := Try.prog)
  go_enter Try.func8, Try.ntmps8
  go_wp2
  refine wp_loop_rounds 1 ?_
  rw [rounds_succ]
  go_wp2
  go_ret
  exact ⟨rfl, by rw [← clA_zero .u32 x]⟩

set_option maxRecDepth 100000 in
set_option maxHeartbeats 400000 in
theorem clone8_some (x : Nat → Int) (g o n c : Nat) (w : World) (hn : n ≤ 1048576) (hg : g < w.heap.size) (hc : ∀ j, j < n → w.cell? ⟨g, o + j, none⟩ = some (.int .u32 (x j))) :
    Calls Try.prog 8 #[.slice (some ⟨g, o, none⟩) n c] w fun e w' => e = .returned (.slice (some ⟨w.heap.size, 0, none⟩) n n) ∧ w.alloc (.cells (clA .u32 x n n) 46) = w' := by
  have hmk := run_make_row' (P := Try.prog) 22 46 (.int .u32 0) 4 Try.underlying22 Try.info46 rfl .i64 .i64 n (by omega) (by omega)
  have hs := Lib.run_eql_slice_nil (P := Try.prog)
  go_enter Try.func8, Try.ntmps8
  go_wp2
  go_loopw [4] (fun i wr => ∃ k : Nat, k ≤ n ∧ i = .int .i64 k ∧ wr = w.alloc (.cells (clA .u32 x n k) 46)) (fun i _ => n - (intOf i).toNat)
  case atStart => exact ⟨0, Nat.zero_le _, rfl, by rw [clA_zero .u32 x]⟩
  case round =>
    obtain ⟨k, hk, rfl, rfl⟩ := hrel
    clear hmk hs
    by_cases hlt : k < n
    · have hck := hc k hlt
      have hd := clA_get .u32 x n k k hlt
      rw [if_neg (Nat.lt_irrefl k)] at hd
      have HS : Hid ((clA .u32 x n k).setIfInBounds k (.int .u32 (x k)) = clA .u32 x n (k + 1)) := clA_step .u32 x n k hlt
      clear hc
      go_wp2
      go_roundw
      case rel => exact ⟨k + 1, by omega, by go_num, by rw [← HS.out]⟩
      case measure => simp [intOf]; omega
    · obtain rfl : k = n := by omega
      go_wp2
      go_ret
      exact ⟨rfl, rfl⟩

set_option maxRecDepth 100000 in
set_option maxHeartbeats 400000 in
theorem clone9_nil (w : World) : Calls Try.prog 9 #[.slice none 0 0] w fun x w' => x = .returned (.slice none 0 0) ∧ w = w' := by
  have hs := Lib.run_eql_slice_nil (P := Try.prog)
  go_enter Try.func9, Try.ntmps9
  go_wp2
  go_ret
  exact ⟨rfl, rfl⟩

set_option maxRecDepth 100000 in
set_option maxHeartbeats 400000 in
theorem clone9_zero (x : Nat → Int) (a : Addr) (c : Nat) (w : World) :
    Calls Try.prog 9 #[.slice (some a) 0 c] w fun e w' => e = .returned (.slice (some ⟨w.heap.size, 0, none⟩) 0 0) ∧ w.alloc (.cells (clA .u64 x 0 0) 47) = w' := by
  have hmk : ∀ w, (Instr.makeSlice 23 (.int .i64 0) (.int .i64 0)).run Try.prog w = .ok (.slice (some ⟨w.heap.size, 0, none⟩) 0 0) (w.alloc (.cells (madeCells #[.int .u64 0] 0) 47)) := run_make_row' (P := Try.prog) 23 47 (.int .u64 0) 8 Try.underlying23 Try.info47 rfl .i64 .i64 0 (by omega) (by omega)
  have hs := Lib.run_eql_slice_nil (P := Try.prog)
  go_enter Try.func9, Try.ntmps9
  go_wp2
  refine wp_loop_rounds 1 ?_
  rw [rounds_succ]
  go_wp2
  go_ret
  exact ⟨rfl, by rw [← clA_zero .u64 x]⟩

set_option maxRecDepth 100000 in
set_option maxHeartbeats 400000 in
theorem clone9_some (x : Nat → Int) (g o n c : Nat) (w : World) (hn : n ≤ 1048576) (hg : g < w.heap.size) (hc : ∀ j, j < n → w.cell? ⟨g, o + j, none⟩ = some (.int .u64 (x j))) :
    Calls Try.prog 9 #[.slice (some ⟨g, o, none⟩) n c] w fun e w' => e = .returned (.slice (some ⟨w.heap.size, 0, none⟩) n n) ∧ w.alloc (.cells (clA .u64 x n n) 47) = w' := by
  have hmk := run_make_row' (P := Try.prog) 23 47 (.int .u64 0) 8 Try.underlying23 Try.info47 rfl .i64 .i64 n (by omega) (by omega)
  have hs := Lib.run_eql_slice_nil (P := Try.prog)
  go_enter Try.func9, Try.ntmps9
  go_wp2
  go_loopw [4] (fun i wr => ∃ k : Nat, k ≤ n ∧ i = .int .i64 k ∧ wr = w.alloc (.cells (clA .u64 x n k) 47)) (fun i _ => n - (intOf i).toNat)
  case atStart => exact ⟨0, Nat.zero_le _, rfl, by rw [clA_zero .u64 x]⟩
  case round =>
    obtain ⟨k, hk, rfl, rfl⟩ := hrel
    clear hmk hs
    by_cases hlt : k < n
    · have hck := hc k hlt
      have hd := clA_get .u64 x n k k hlt
      rw [if_neg (Nat.lt_irrefl k)] at hd
      have HS : Hid ((clA .u64 x n k).setIfInBounds k (.int .u64 (x k)) = clA .u64 x n (k + 1)) := clA_step .u64 x n k hlt
      clear hc
      go_wp2
      go_roundw
      case rel => exact ⟨k + 1, by omega, by go_num, by rw [← HS.out]⟩
      case measure => simp [intOf]; omega
    · obtain rfl : k = n := by omega
      go_wp2
      go_ret
      exact ⟨rfl, rfl⟩

set_option maxRecDepth 100000 in
set_option maxHeartbeats 400000 in
/-- zqFewToInts. -/
theorem ints12 (x : Nat → Int) (hx : ∀ j, 0 ≤ x j ∧ x j ≤ 4294967295) (g n c : Nat) (w : World) (hn : n ≤ 1048576) (hg : g < w.heap.size) (hc : ∀ j, j < n → w.cell? ⟨g, j, none⟩ = some (.int .u32 (x j))) :
    Calls Try.prog 12 #[.slice (some ⟨g, 0, none⟩) n c] w fun e w' => e = .returned (.slice (some ⟨w.heap.size, 0, none⟩) n n) ∧ w.alloc (.cells (clA .i64 x n n) 3) = w' := by
  have hmk := run_make_row' (P := Try.prog) 31 3 (.int .i64 0) 8 Try.underlying31 Try.info3 rfl .i64 .i64 n (by omega) (by omega)
  go_enter Try.func12, Try.ntmps12
  go_wp2
  go_loopw [4] (fun i wr => ∃ k : Nat, k ≤ n ∧ i = .int .i64 k ∧ wr = w.alloc (.cells (clA .i64 x n k) 3)) (fun i _ => n - (intOf i).toNat)
  case atStart => exact ⟨0, Nat.zero_le _, rfl, by rw [clA_zero .i64 x]⟩
  case round =>
    obtain ⟨k, hk, rfl, rfl⟩ := hrel
    clear hmk
    by_cases hlt : k < n
    · have hck := hc k hlt
      obtain ⟨hx0, hx1⟩ := hx k
      have hd := clA_get .i64 x n k k hlt
      rw [if_neg (Nat.lt_irrefl k)] at hd
      have HS : Hid ((clA .i64 x n k).setIfInBounds k (.int .i64 (x k)) = clA .i64 x n (k + 1)) := clA_step .i64 x n k hlt
      clear hc
      go_wp2
      go_roundw
      case rel => exact ⟨k + 1, by omega, by go_num, by rw [← HS.out]⟩
      case measure => simp [intOf]; omega
    · obtain rfl : k = n := by omega
      go_wp2
      go_ret
      exact ⟨rfl, rfl⟩

end Go.Proofs.Qxb6617110a
