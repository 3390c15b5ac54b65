import Derived.Test.Qxb6617110aWell
namespace Go.Proofs.Qxb6617110a
open Go.RowKit

/-- An answer that says whether p; nothing changed. -/
def Told (p : Prop) (w : World) (e : Ending) (w' : World) : Prop := ∃ b, e = .returned (.bool b) ∧ (b = true ↔ p) ∧ ∃ m, w.drewN m = w'

set_option maxRecDepth 100000 in
set_option maxHeartbeats 400000 in
theorem has16 (x : Nat → Int) (p : Int) (hp1 : 1 ≤ p) (hp2 : p ≤ 4194304) (hx : ∀ j, 0 ≤ x j ∧ x j ≤ 4294967295) (g len c : Nat) (s : Option Addr) (w : World) (hl : len ≤ 1048576) (hs : 0 < len → s = some ⟨g, 0, none⟩)
    (hc : ∀ j, j < len → w.cell? ⟨g, j, none⟩ = some (.int .u32 (x j))) :
    Calls Try.prog 16 #[.slice s len c, .int .i64 p] w fun e w' => Told (∃ i, i < len ∧ x i = p) w e w' := by
  have HC := mkHid hc
  have HX := mkHid hx
  have HE := mkHid hs
  clear hc hx hs
  go_enter Try.func16, Try.ntmps16
  go_wp2
  go_loopw [5] (fun i wr => ∃ k m : Nat, k ≤ len ∧ i = .int .i64 k ∧ wr = w.drewN m ∧ Hid (∀ j, j < k → x j ≠ p)) (fun i _ => len - (intOf i).toNat)
  case atStart => exact ⟨0, 0, Nat.zero_le _, rfl, rfl, fun j h => absurd h (Nat.not_lt_zero _)⟩
  case round =>
    obtain ⟨k, m, hk, rfl, rfl, HI⟩ := hrel
    by_cases hlt : k < len
    · have hck := HC.out k hlt
      obtain rfl := HE.out (by omega)
      obtain ⟨hx0, hx1⟩ := HX.out k
      by_cases h1 : x k = p
      · have H1 := mkHid h1
        have h2 : (x k == p) = true := by simpa using h1
        clear h1
        go_wp2
        go_ret
        exact ⟨true, rfl, ⟨fun _ => ⟨k, hlt, H1.out⟩, fun _ => rfl⟩, _, rfl⟩
      · go_wp2
        go_roundw
        case rel =>
          refine ⟨k + 1, _, by omega, by go_num, rfl, fun j hj => ?_⟩
          by_cases e : j = k
          · subst e; exact h1
          · exact HI.out j (by omega)
        case measure => simp [intOf]; omega
    · obtain rfl : k = len := by omega
      go_wp2
      go_ret
      exact ⟨false, rfl, ⟨fun h => Bool.noConfusion h, fun ⟨i, hi, e⟩ => absurd e (HI.out i hi)⟩, m, rfl⟩
end Go.Proofs.Qxb6617110a
