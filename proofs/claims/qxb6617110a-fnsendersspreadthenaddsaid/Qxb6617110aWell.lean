import Derived.Test.Qxb6617110aSpread
namespace Go.Proofs.Qxb6617110a
open Go.RowKit

/-- The list holds numbers of 1 to n, each above the one ahead of it. -/
structure FewWF (x : Nat → Int) (n : Int) (len : Nat) : Prop where
  within : ∀ j, j < len → 1 ≤ x j ∧ x j ≤ n
  up : ∀ j, j + 1 < len → x j < x (j + 1)

/-- An answer of which 'true' says p; nothing changed. -/
def Said (p : Prop) (w : World) (e : Ending) (w' : World) : Prop := ∃ b, e = .returned (.bool b) ∧ (b = true → p) ∧ ∃ m, w.drewN m = w'

set_option maxRecDepth 100000 in
set_option maxHeartbeats 400000 in
theorem wf7_zero (n : Int) (s : Option Addr) (c : Nat) (w : World) :
    Calls Try.prog 7 #[.slice s 0 c, .int .i64 n] w fun e w' => e = .returned (.bool true) ∧ w = w' := by
  go_enter Try.func7, Try.ntmps7
  go_wp2
  refine wp_loop_rounds 1 ?_
  rw [rounds_succ]
  go_wp2
  go_ret
  exact ⟨rfl, rfl⟩

set_option maxRecDepth 100000 in
set_option maxHeartbeats 400000 in
theorem wf7 (x : Nat → Int) (n : Int) (hn1 : 1 ≤ n) (hn2 : n ≤ 4194304) (hx : ∀ j, 0 ≤ x j ∧ x j ≤ 4294967295) (g o len c : Nat) (w : World) (hl : len ≤ 1048576)
    (hc : ∀ j, j < len → w.cell? ⟨g, o + j, none⟩ = some (.int .u32 (x j))) :
    Calls Try.prog 7 #[.slice (some ⟨g, o, none⟩) len c, .int .i64 n] w fun e w' => Said (FewWF x n len) w e w' := by
  have HC := mkHid hc
  have HX := mkHid hx
  clear hc hx
  go_enter Try.func7, Try.ntmps7
  go_wp2
  go_loopw [5] (fun i wr => ∃ k m : Nat, k ≤ len ∧ i = .int .i64 k ∧ wr = w.drewN m ∧ Hid (FewWF x n k)) (fun i _ => len - (intOf i).toNat)
  case atStart => exact ⟨0, 0, Nat.zero_le _, rfl, rfl, fun j h => absurd h (Nat.not_lt_zero _), fun j h => absurd h (Nat.not_lt_zero _)⟩
  case round =>
    obtain ⟨k, m, hk, rfl, rfl, HI⟩ := hrel
    by_cases hlt : k < len
    · have hck := HC.out k hlt
      obtain ⟨hx0, hx1⟩ := HX.out k
      by_cases h1 : x k < 1
      · go_wp2
        go_ret
        exact ⟨false, rfl, fun h => Bool.noConfusion h, _, rfl⟩
      by_cases h2 : x k > n
      · go_wp2
        go_ret
        exact ⟨false, rfl, fun h => Bool.noConfusion h, _, rfl⟩
      by_cases h0 : decide (0 < k) = false
      · have H0 := mkHid (of_decide_eq_false h0)
        go_wp2
        go_quiet (fail)
        go_wp2
        go_roundw
        case rel =>
          refine ⟨k + 1, _, by omega, by go_num, rfl, ⟨fun j hj => ?_, fun j hj => by have := H0.out; omega⟩⟩
          have := H0.out
          obtain rfl : j = k := by omega
          omega
        case measure => simp [intOf]; omega
      · have h0' : decide (0 < k) = true := by cases hb : decide (0 < k) with
          | true => rfl
          | false => exact absurd hb h0
        have h0'' := of_decide_eq_true h0'
        clear h0
        have hck' := HC.out (k - 1) (by omega)
        have hsub : (k : Int) - 1 = ((k - 1 : Nat) : Int) := by omega
        have hs2 : (k - 1 : Nat) < len := by omega
        obtain ⟨hy0, hy1⟩ := HX.out (k - 1)
        by_cases h3 : x (k - 1) ≥ x k
        · go_wp2
          go_quiet (fail)
          go_wp2
          go_ret
          exact ⟨false, rfl, fun h => Bool.noConfusion h, _, (World.drewN_drewN _ _ _).symm⟩
        · go_wp2
          go_quiet (fail)
          go_wp2
          go_roundw
          case rel =>
            refine ⟨k + 1, _, by omega, by go_num, rfl, ⟨fun j hj => ?_, fun j hj => ?_⟩⟩
            · by_cases e : j = k
              · subst e; omega
              · exact HI.out.within j (by omega)
            · by_cases e : j + 1 = k
              · have : j = k - 1 := by omega
                subst this
                rw [e]; omega
              · exact HI.out.up j (by omega)
          case measure => simp [intOf]; omega
    · obtain rfl : k = len := by omega
      go_wp2
      go_ret
      exact ⟨true, rfl, fun _ => HI.out, m, rfl⟩
end Go.Proofs.Qxb6617110a
