import Derived.Test.Qxb6617110aRowsOf
import Derived.Laws.BitsLemmas
import Derived.Lib.EndianBits
namespace Go.Proofs.Qxb6617110a
open Go.RowKit

/-- The bit of process q + 1 in its word. -/
def bitI (q : Nat) : Int := ((2 ^ (q % 64) : Nat) : Int)
theorem pow_lt (q : Nat) : 2 ^ (q % 64) < 2 ^ 64 := Nat.pow_lt_pow_right (by decide) (Nat.mod_lt _ (by decide))
theorem bitI_wrap (q : Nat) : IntKind.u64.wrap (2 ^ (q % 64)) = bitI q := by
  have h := pow_lt q
  rw [IntKind.wrap_u64]
  have e : (2 : Int) ^ (q % 64) = ((2 ^ (q % 64) : Nat) : Int) := by simp
  rw [e]
  unfold bitI
  generalize (2 ^ (q % 64) : Nat) = v at *
  omega
theorem or_bit (a q : Nat) (ha : a < 2 ^ 64) : bits .or .u64 (a : Int) (bitI q) = ((a ||| 2 ^ (q % 64) : Nat) : Int) :=
  (bits_nat .u64 64 (by decide) wraps_u64 a (2 ^ (q % 64)) ha (pow_lt q)).2
theorem and_bit (a q : Nat) (ha : a < 2 ^ 64) : bits .and .u64 (a : Int) (bitI q) = ((a &&& 2 ^ (q % 64) : Nat) : Int) :=
  (bits_nat .u64 64 (by decide) wraps_u64 a (2 ^ (q % 64)) ha (pow_lt q)).1
theorem test_bit (a q : Nat) (ha : a < 2 ^ 64) : (bits .and .u64 (a : Int) (bitI q) != 0) = a.testBit (q % 64) := by
  rw [and_bit a q ha]
  cases h : a.testBit (q % 64)
  · have e : a &&& 2 ^ (q % 64) = 0 := by
      apply Nat.eq_of_testBit_eq
      intro i
      rw [Nat.testBit_and, Nat.testBit_two_pow, Nat.zero_testBit]
      by_cases hi : q % 64 = i
      · subst hi; simp [h]
      · simp [hi]
    simp [e]
  · have e : a &&& 2 ^ (q % 64) ≠ 0 := by
      intro e
      have : (a &&& 2 ^ (q % 64)).testBit (q % 64) = true := by rw [Nat.testBit_and, Nat.testBit_two_pow]; simp [h]
      rw [e, Nat.zero_testBit] at this
      cases this
    simp only [bne_iff_ne, ne_eq]
    exact fun h => e (by exact_mod_cast h)

set_option maxRecDepth 100000 in
set_option maxHeartbeats 400000 in
theorem bitof (q : Nat) (w : World) (h2 : q < 4194304) :
    Calls Try.prog 27 #[.int .i64 ((q : Int) + 1)] w fun e w' => e = .returned (.tuple #[.int .i64 ((q / 64 : Nat) : Int), .int .u64 (bitI q)]) ∧ ∃ k, w' = w.drewN k := by
  have HW := mkHid (bitI_wrap q)
  go_enter Try.func27, Try.ntmps27
  go_wp2
  go_quiet (fail)
  go_wp2
  go_ret2
  refine ⟨?_, _, rfl⟩
  rw [← HW.out]
  rfl

/-- The words of a set, as the cells of a row. -/
def bitsA (B : Nat → Nat) (nw : Nat) : Array Value := ((List.range nw).map fun j => Value.int .u64 ((B j : Nat) : Int)).toArray
theorem bitsA_size (B : Nat → Nat) (nw : Nat) : (bitsA B nw).size = nw := by simp [bitsA]
theorem bitsA_get (B : Nat → Nat) (nw j : Nat) (h : j < nw) : (bitsA B nw)[j]? = some (.int .u64 ((B j : Nat) : Int)) := by
  simp [bitsA, List.getElem?_range h]
theorem bitsA_congr (B C : Nat → Nat) (nw : Nat) (h : ∀ j, j < nw → B j = C j) : bitsA B nw = bitsA C nw := by
  unfold bitsA
  congr 1
  apply List.map_congr_left
  intro j hj
  rw [h j (List.mem_range.1 hj)]
/-- Member q + 1 put into the words. -/
def put (B : Nat → Nat) (q : Nat) : Nat → Nat := fun j => if j = q / 64 then B j ||| 2 ^ (q % 64) else B j
theorem bitsA_put (B : Nat → Nat) (nw q : Nat) (h : q / 64 < nw) : (bitsA B nw).setIfInBounds (q / 64) (.int .u64 ((B (q / 64) ||| 2 ^ (q % 64) : Nat) : Int)) = bitsA (put B q) nw := by
  apply Array.ext_getElem?
  intro j
  rw [Array.getElem?_setIfInBounds, bitsA_size]
  by_cases hj : j < nw
  · rw [bitsA_get _ _ _ hj, bitsA_get _ _ _ hj]
    by_cases e : q / 64 = j
    · subst e; simp [h, put]
    · rw [if_neg e]; simp [put, show ¬ j = q / 64 from fun x => e x.symm]
  · rw [if_neg (by omega)]
    have h1 : (bitsA B nw)[j]? = none := by rw [Array.getElem?_eq_none]; rw [bitsA_size]; omega
    have h2 : (bitsA (put B q) nw)[j]? = none := by rw [Array.getElem?_eq_none]; rw [bitsA_size]; omega
    rw [h1, h2]
theorem bitsA_zero (nw : Nat) : madeCells #[.int .u64 0] nw = bitsA (fun _ => 0) nw := by
  apply Array.ext_getElem?
  intro j
  by_cases hj : j < nw
  · rw [bitsA_get _ _ _ hj]; simp [madeCells, hj, Nat.mod_one]
  · rw [Array.getElem?_eq_none, Array.getElem?_eq_none]
    · rw [bitsA_size]; omega
    · rw [size_madeCells]; omega
/-- B holds just the processes of 'mem' (q stands for process q + 1). -/
structure Holds (B : Nat → Nat) (mem : Nat → Prop) : Prop where
  lt : ∀ j, B j < 2 ^ 64
  bit : ∀ q, (B (q / 64)).testBit (q % 64) = true ↔ mem q
theorem Holds.empty : Holds (fun _ => 0) (fun _ => False) := ⟨fun _ => by decide, fun q => by simp⟩
theorem Holds.put {B : Nat → Nat} {mem : Nat → Prop} (h : Holds B mem) (q : Nat) : Holds (put B q) (fun r => mem r ∨ r = q) := by
  refine ⟨fun j => ?_, fun r => ?_⟩
  · unfold Qxb6617110a.put
    split
    · exact Nat.or_lt_two_pow (h.lt j) (pow_lt q)
    · exact h.lt j
  · unfold Qxb6617110a.put
    by_cases e : r / 64 = q / 64
    · rw [if_pos e, Nat.testBit_or, Nat.testBit_two_pow, Bool.or_eq_true, h.bit r]
      constructor
      · rintro (h1 | h1)
        · exact Or.inl h1
        · right
          have h1' : q % 64 = r % 64 := by simpa using h1
          omega
      · rintro (h1 | h1)
        · exact Or.inl h1
        · right; subst h1; simp
    · rw [if_neg e, h.bit r]
      constructor
      · exact Or.inl
      · rintro (h1 | h1)
        · exact h1
        · subst h1; exact absurd rfl e
theorem Holds.congr {B : Nat → Nat} {mem mem' : Nat → Prop} (h : Holds B mem) (e : ∀ q, mem q ↔ mem' q) : Holds B mem' := ⟨h.lt, fun q => (h.bit q).trans (e q)⟩
end Go.Proofs.Qxb6617110a
