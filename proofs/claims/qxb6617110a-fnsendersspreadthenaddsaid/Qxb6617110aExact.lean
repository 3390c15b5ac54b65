import Derived.Test.Qxb6617110aIns
namespace Go.Proofs.Qxb6617110a
open Go.RowKit

/-- Behind 'pos' positions: k of the m members are passed. -/
structure Past (y : Nat → Int) (m k pos : Nat) : Prop where
  le : k ≤ m
  below : ∀ i, i < k → y i ≤ pos
  above : ∀ i, k ≤ i → i < m → (pos : Int) < y i
theorem Past.hit {y : Nat → Int} {m k pos : Nat} (h : Past y m k pos) (hy : ∀ i j, i < j → j < m → y i < y j) (hk : k < m) (e : y k = (pos : Int) + 1) : Past y m (k + 1) (pos + 1) := by
  refine ⟨hk, fun i hi => ?_, fun i h1 h2 => ?_⟩
  · by_cases e2 : i = k
    · subst e2; omega
    · have := h.below i (by omega); omega
  · have := hy k i (by omega) h2; omega
theorem Past.miss {y : Nat → Int} {m k pos : Nat} (h : Past y m k pos) (hy : ∀ i j, i < j → j < m → y i < y j) (e : k < m → y k ≠ (pos : Int) + 1) : Past y m k (pos + 1) := by
  refine ⟨h.le, fun i hi => ?_, fun i h1 h2 => ?_⟩
  · have := h.below i (by omega); omega
  · have h3 := h.above k (Nat.le_refl _) (by omega)
    have h4 := e (by omega)
    by_cases e2 : i = k
    · subst e2; omega
    · have := hy k i (by omega) h2; omega
theorem Past.mem {y : Nat → Int} {m k pos : Nat} (h : Past y m k pos) (hy : ∀ i j, i < j → j < m → y i < y j) : (∃ i, i < m ∧ y i = (pos : Int) + 1) ↔ (k < m ∧ y k = (pos : Int) + 1) := by
  constructor
  · rintro ⟨i, h1, h2⟩
    have h3 : k ≤ i := by
      refine Nat.le_of_not_lt fun h4 => ?_
      have := h.below i h4; omega
    by_cases e : i = k
    · subst e; exact ⟨h1, h2⟩
    · have := hy k i (by omega) h1
      have := h.above k (Nat.le_refl _) (by omega)
      omega
  · rintro ⟨h1, h2⟩
    exact ⟨k, h1, h2⟩

theorem bit_at {B : Nat → Nat} {mem : Nat → Prop} (h : Holds B mem) (wd j : Nat) (hj : j < 64) (b : Bool) (hb : mem (64 * wd + j) ↔ b = true) : (bits .and .u64 (B wd : Int) (IntKind.u64.wrap (2 ^ j)) != 0) = b := by
  have e1 : (64 * wd + j) / 64 = wd := by omega
  have e2 : (64 * wd + j) % 64 = j := by omega
  have h1 := h.bit (64 * wd + j)
  have h2 := test_bit (B wd) (64 * wd + j) (h.lt wd)
  have h3 := bitI_wrap (64 * wd + j)
  rw [e1, e2] at h1
  rw [e2] at h2 h3
  rw [h3, h2]
  cases b with
  | true => exact h1.2 (hb.2 rfl)
  | false =>
    cases ht : (B wd).testBit j with
    | false => rfl
    | true => exact absurd (hb.1 (h1.1 ht)) (by simp)

set_option maxRecDepth 100000 in
set_option maxHeartbeats 800000 in
theorem exact15 (B : Nat → Nat) (y : Nat → Int) (N nw c g m c' : Nat) (w : World) (hnw : nw ≤ 65536) (hm : m ≤ 4194304)
    (hB : Holds B (fun q => ∃ i, i < m ∧ y i = (q : Int) + 1)) (hy : ∀ i j, i < j → j < m → y i < y j) (hy1 : ∀ i, i < m → 1 ≤ y i) (hy2 : ∀ i, i < m → y i ≤ 64 * nw)
    (hb : ∀ j, j < nw → w.cell? ⟨N, j, none⟩ = some (.int .u64 (B j : Int))) (hc : ∀ j, j < m → w.cell? ⟨g, j, none⟩ = some (.int .i64 (y j))) :
    Calls Try.prog 15 #[.slice (some ⟨N, 0, none⟩) nw c, .slice (some ⟨g, 0, none⟩) m c'] w fun e w' => e = .returned (.bool true) ∧ ∃ d, w' = w.drewN d := by
  have HC := mkHid hc
  have HB := mkHid hB
  have HY := mkHid (And.intro hy (And.intro hy1 hy2))
  have HW := mkHid hb
  clear hc hB hy hy1 hy2 hb
  go_enter Try.func15, Try.ntmps15
  go_wp2
  go_loopw [5, 6] (fun sk sw wr => ∃ (k wd d : Nat), wd ≤ nw ∧ sk = .int .i64 k ∧ sw = .int .i64 wd ∧ wr = w.drewN d ∧ Hid (Past y m k (64 * wd))) (fun _ sw _ => nw - (intOf sw).toNat)
  case atStart => exact ⟨0, 0, 0, Nat.zero_le _, rfl, rfl, rfl, Nat.zero_le _, fun i h => absurd h (Nat.not_lt_zero _), fun i _ h => by have := HY.out.2.1 i h; omega⟩
  case round =>
    obtain ⟨k, wd, d, hwd, rfl, rfl, rfl, HP⟩ := hrel
    by_cases hlt : wd < nw
    · have hbw := HW.out wd hlt
      go_wp2
      go_loopw [5, 7] (fun sk sj wr => ∃ (k j d : Nat), j ≤ 64 ∧ sk = .int .i64 k ∧ sj = .int .i64 j ∧ wr = w.drewN d ∧ Hid (Past y m k (64 * wd + j))) (fun _ sj _ => 64 - (intOf sj).toNat)
      case atStart => exact ⟨k, 0, d, Nat.zero_le _, rfl, rfl, rfl, HP⟩
      case round =>
        clear HP
        obtain ⟨k, j, d, hj, rfl, rfl, rfl, HP⟩ := hrel
        by_cases hj2 : j < 64
        · have hmem := HP.out.mem HY.out.1
          have hkm := HP.out.le
          by_cases hkm2 : k < m
          · have hck := HC.out k hkm2
            by_cases hit : y k = 64 * (wd : Int) + j + 1
            · have hset := bit_at HB.out wd j hj2 true (by rw [hmem]; simp; omega)
              have HI := mkHid hit
              have hit' : (y k == 64 * (wd : Int) + j + 1) = true := by simpa using hit
              clear hit hmem
              go_wp2
              go_roundw
              case rel => exact ⟨k + 1, j + 1, d, by omega, by go_num, by go_num, rfl, HP.out.hit HY.out.1 hkm2 (by rw [HI.out]; omega)⟩
              case measure => simp [intOf]; omega
            · have hset := bit_at HB.out wd j hj2 false (by rw [hmem]; simp; omega)
              clear hmem
              go_wp2
              go_roundw
              case rel => exact ⟨k, j + 1, d, by omega, rfl, by go_num, rfl, HP.out.miss HY.out.1 (fun _ => by omega)⟩
              case measure => simp [intOf]; omega
          · have hset := bit_at HB.out wd j hj2 false (by rw [hmem]; simp; omega)
            clear hmem
            go_wp2
            go_roundw
            case rel => exact ⟨k, j + 1, d, by omega, rfl, by go_num, rfl, HP.out.miss HY.out.1 (fun h => absurd h hkm2)⟩
            case measure => simp [intOf]; omega
        · obtain rfl : j = 64 := by omega
          go_wp2
          go_roundw
          case rel => exact ⟨k, wd + 1, d, by omega, rfl, by go_num, rfl, HP⟩
          case measure => simp [intOf]; omega
    · obtain rfl : wd = nw := by omega
      have hkm : k = m := by
        refine Nat.le_antisymm HP.out.le (Nat.le_of_not_lt fun h => ?_)
        have := HP.out.above k (Nat.le_refl _) h
        have := HY.out.2.2 k h
        omega
      subst hkm
      go_wp2
      go_ret
      exact ⟨rfl, _, rfl⟩
end Go.Proofs.Qxb6617110a
