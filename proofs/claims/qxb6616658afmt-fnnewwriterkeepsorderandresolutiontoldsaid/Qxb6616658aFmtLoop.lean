import Derived.Test.Qxb6616658aFmtLaw
import Derived.Deep.OwnRows
import Derived.Deep.QuietTactic
import Derived.BigQuiet
namespace Go.Proofs.Qxb6616658aFmt
open Go.RowKit

/-- The clone's cells behind k rounds. -/
def clA (x : Nat → Int) (n k : Nat) : Array Value := ((List.range n).map fun j => if j < k then Value.int .u8 (x j) else Value.int .u8 0).toArray
theorem clA_size (x : Nat → Int) (n k : Nat) : (clA x n k).size = n := by simp [clA]
theorem clA_get (x : Nat → Int) (n k j : Nat) (h : j < n) : (clA x n k)[j]? = some (if j < k then Value.int .u8 (x j) else Value.int .u8 0) := by
  simp [clA, List.getElem?_range h]
theorem clA_step (x : Nat → Int) (n k : Nat) (h : k < n) : (clA x n k).setIfInBounds k (.int .u8 (x k)) = clA x n (k + 1) := by
  apply Array.ext_getElem?
  intro j
  rw [Array.getElem?_setIfInBounds, clA_size]
  by_cases hj : j < n
  · rw [clA_get _ _ _ _ hj, clA_get _ _ _ _ hj]
    by_cases e : k = j
    · subst e; simp [h]
    · rw [if_neg e]
      by_cases h2 : j < k
      · rw [if_pos h2, if_pos (by omega)]
      · rw [if_neg h2, if_neg (by omega)]
  · rw [if_neg (by omega)]
    have h1 : (clA x n k)[j]? = none := by rw [Array.getElem?_eq_none]; rw [clA_size]; omega
    have h2 : (clA x n (k + 1))[j]? = none := by rw [Array.getElem?_eq_none]; rw [clA_size]; omega
    rw [h1, h2]
theorem clA_zero (x : Nat → Int) (n : Nat) : madeCells #[.int .u8 0] n = clA x n 0 := by
  apply Array.ext_getElem?
  intro j
  by_cases hj : j < n
  · rw [clA_get _ _ _ _ hj]; simp [madeCells, hj, Nat.mod_one]
  · rw [Array.getElem?_eq_none, Array.getElem?_eq_none]
    · rw [clA_size]; omega
    · rw [size_madeCells]; omega

theorem Tryf.info5 : (Tryf.prog.info? 5).map (fun i => (i.zero, i.size, i.bytes)) = some (some (.int .u8 0), 1, 1) := by kernel_rfl

set_option maxRecDepth 100000 in
set_option maxHeartbeats 400000 in
theorem clone_nil (w : World) : Calls Tryf.prog 8 #[.slice none 0 0] w fun e w' => e = .returned (.slice none 0 0) ∧ w' = w := by
  have hs := Lib.run_eql_slice_nil (P := Tryf.prog)
  go_enter Tryf.func8, Tryf.ntmps8
  go_wp2
  go_ret
  exact ⟨rfl, rfl⟩

set_option maxRecDepth 100000 in
set_option maxHeartbeats 400000 in
theorem clone_some (x : Nat → Int) (g o n c : Nat) (w : World) (hn : n ≤ 1048576) (hg : g < w.heap.size) (hc : ∀ j, j < n → w.cell? ⟨g, o + j, none⟩ = some (.int .u8 (x j))) :
    Calls Tryf.prog 8 #[.slice (some ⟨g, o, none⟩) n c] w fun e w' => e = .returned (.slice (some ⟨w.heap.size, 0, none⟩) n n) ∧ w' = w.alloc (.cells (clA x n n) 5) := by
  have hmk := run_make_row' (P := Tryf.prog) 22 5 (.int .u8 0) 1 Tryf.underlying22 Tryf.info5 rfl .i64 .i64 n (by omega) (by omega)
  have hs := Lib.run_eql_slice_nil (P := Tryf.prog)
  go_enter Tryf.func8, Tryf.ntmps8
  go_wp2
  go_loopw [4] (fun i wr => ∃ k : Nat, k ≤ n ∧ i = .int .i64 k ∧ wr = w.alloc (.cells (clA x n k) 5)) (fun i _ => n - (intOf i).toNat)
  case atStart => exact ⟨0, Nat.zero_le _, rfl, by rw [clA_zero x]⟩
  case round =>
    obtain ⟨k, hk, rfl, rfl⟩ := hrel
    clear hmk hs
    by_cases hlt : k < n
    · have hck := hc k hlt
      have hd := clA_get x n k k hlt
      rw [if_neg (Nat.lt_irrefl k)] at hd
      have HS : Hid ((clA x n k).setIfInBounds k (.int .u8 (x k)) = clA x n (k + 1)) := clA_step x n k hlt
      clear hc
      go_wp2
      go_roundw
      case rel => exact ⟨k + 1, by omega, by go_num, by rw [← HS.out]⟩
      case measure => simp [intOf]; omega
    · obtain rfl : k = n := by omega
      go_wp2
      go_ret
      exact ⟨rfl, rfl⟩

set_option maxRecDepth 100000 in
set_option maxHeartbeats 400000 in
theorem is_yes (x : Nat → Int) (g n : Nat) (w : World) (hn : 24 ≤ n) (hc : ∀ j, j < n → w.cell? ⟨g, j, none⟩ = some (.int .u8 (x j))) (hg : g < w.heap.size) :
    Calls Tryf.prog 12 #[.agg (rawA x), .slice (some ⟨g, 0, none⟩) n n] w fun e w' => e = .returned (.bool true) ∧ Below w.heap.size w w' := by
  go_enter Tryf.func12, Tryf.ntmps12
  go_wp2
  go_loopw [5] (fun i wr => ∃ k m : Nat, k ≤ 24 ∧ i = .int .i64 k ∧ wr = (w.alloc (.cells (rawA x) 33)).drewN m) (fun i _ => 24 - (intOf i).toNat)
  case atStart => exact ⟨0, 0, Nat.zero_le _, rfl, rfl⟩
  case round =>
    obtain ⟨k, m, hk, rfl, rfl⟩ := hrel
    by_cases hlt : k < 24
    · have hck := hc k (by omega)
      have hd := rawA_get x k hlt
      have hi : (k : Int) < (n : Int) := by omega
      have hi2 : (k : Int) < 24 := by omega
      clear hc
      go_wp2
      go_quiet (fail)
      go_wp2
      go_roundw
      case rel => exact ⟨k + 1, _, by omega, by go_num, rfl⟩
      case measure => simp [intOf]; omega
    · go_wp2
      go_ret
      exact ⟨rfl, below_drewN (((Below.refl _ _).alloc (Nat.le_refl _) _)) _⟩
end Go.Proofs.Qxb6616658aFmt
