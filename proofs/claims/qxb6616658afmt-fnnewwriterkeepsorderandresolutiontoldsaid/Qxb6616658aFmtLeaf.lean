import Derived.Test.Qxb6616658aFmtLaw
import Derived.Lib.EndianBits
import Derived.Deep.QuietTactic
import Derived.BigQuiet
import Derived.Stop.LaidErr
import Derived.RegionTactic
import Derived.Deep.RegionWith
namespace Go.Proofs.Qxb6616658aFmt
open Go.RowKit

theorem Tryf.mLeU32 (w : World) : (method 269 100 (.agg #[]) "Uint32").run Tryf.prog w = .ok (41, .agg #[]) w := by kernel_rfl
theorem Tryf.mBeU32 (w : World) : (method 269 102 (.agg #[]) "Uint32").run Tryf.prog w = .ok (94, .agg #[]) w := by kernel_rfl
theorem Tryf.mLeU16 (w : World) : (method 269 100 (.agg #[]) "Uint16").run Tryf.prog w = .ok (86, .agg #[]) w := by kernel_rfl
theorem Tryf.mBeU16 (w : World) : (method 269 102 (.agg #[]) "Uint16").run Tryf.prog w = .ok (93, .agg #[]) w := by kernel_rfl

theorem u32_hi8 (x y : Int) (hx₀ : 0 ≤ x) (hx : x % 256 = 0) (hx₁ : x < 4294967296) (hy₀ : 0 ≤ y) (hy : y < 256) : bits .or .u32 x y = x + y :=
  bits_join .u32 32 (by decide) wraps_u32 8 x y hx₀ hx hx₁ hy₀ hy (by omega)
theorem u32_hi16 (x y : Int) (hx₀ : 0 ≤ x) (hx : x % 65536 = 0) (hx₁ : x < 4294967296) (hy₀ : 0 ≤ y) (hy : y < 65536) : bits .or .u32 x y = x + y :=
  bits_join .u32 32 (by decide) wraps_u32 16 x y hx₀ hx hx₁ hy₀ hy (by omega)
theorem u32_hi24 (x y : Int) (hx₀ : 0 ≤ x) (hx : x % 16777216 = 0) (hx₁ : x < 4294967296) (hy₀ : 0 ≤ y) (hy : y < 16777216) : bits .or .u32 x y = x + y :=
  bits_join .u32 32 (by decide) wraps_u32 24 x y hx₀ hx hx₁ hy₀ hy (by omega)
theorem u16_hi8 (x y : Int) (hx₀ : 0 ≤ x) (hx : x % 256 = 0) (hx₁ : x < 65536) (hy₀ : 0 ≤ y) (hy : y < 256) : bits .or .u16 x y = x + y :=
  bits_join .u16 16 (by decide) wraps_u16 8 x y hx₀ hx hx₁ hy₀ hy (by omega)

set_option maxRecDepth 100000 in
set_option maxHeartbeats 400000 in
theorem le32 (g o n c : Nat) (x0 x1 x2 x3 : Int) (w : World) (hn : 4 ≤ n) (h0 : 0 ≤ x0 ∧ x0 ≤ 255) (h1 : 0 ≤ x1 ∧ x1 ≤ 255) (h2 : 0 ≤ x2 ∧ x2 ≤ 255) (h3 : 0 ≤ x3 ∧ x3 ≤ 255)
    (c0 : w.cell? ⟨g, o, none⟩ = some (.int .u8 x0)) (c1 : w.cell? ⟨g, o + 1, none⟩ = some (.int .u8 x1)) (c2 : w.cell? ⟨g, o + 2, none⟩ = some (.int .u8 x2)) (c3 : w.cell? ⟨g, o + 3, none⟩ = some (.int .u8 x3)) :
    Calls Tryf.prog 25 #[.slice (some ⟨g, o, none⟩) n c] w fun e w' => e = .returned (.int .u32 (x0 + x1 * 256 + x2 * 65536 + x3 * 16777216)) ∧ ∃ k, w' = w.drewN k := by
  obtain ⟨h0a, h0b⟩ := h0; obtain ⟨h1a, h1b⟩ := h1; obtain ⟨h2a, h2b⟩ := h2; obtain ⟨h3a, h3b⟩ := h3
  go_enter Tryf.func25, Tryf.ntmps25
  go_wp2
  go_quiet (fail)
  go_wp2
  go_ret
  refine ⟨?_, _, rfl⟩
  simp (disch := omega) only [u32_or8, u32_or16, u32_or24]
  rfl

set_option maxRecDepth 100000 in
set_option maxHeartbeats 400000 in
theorem be32 (g o n c : Nat) (x0 x1 x2 x3 : Int) (w : World) (hn : 4 ≤ n) (h0 : 0 ≤ x0 ∧ x0 ≤ 255) (h1 : 0 ≤ x1 ∧ x1 ≤ 255) (h2 : 0 ≤ x2 ∧ x2 ≤ 255) (h3 : 0 ≤ x3 ∧ x3 ≤ 255)
    (c0 : w.cell? ⟨g, o, none⟩ = some (.int .u8 x0)) (c1 : w.cell? ⟨g, o + 1, none⟩ = some (.int .u8 x1)) (c2 : w.cell? ⟨g, o + 2, none⟩ = some (.int .u8 x2)) (c3 : w.cell? ⟨g, o + 3, none⟩ = some (.int .u8 x3)) :
    Calls Tryf.prog 26 #[.slice (some ⟨g, o, none⟩) n c] w fun e w' => e = .returned (.int .u32 (x0 * 16777216 + x1 * 65536 + x2 * 256 + x3)) ∧ ∃ k, w' = w.drewN k := by
  obtain ⟨h0a, h0b⟩ := h0; obtain ⟨h1a, h1b⟩ := h1; obtain ⟨h2a, h2b⟩ := h2; obtain ⟨h3a, h3b⟩ := h3
  go_enter Tryf.func26, Tryf.ntmps26
  go_wp2
  go_quiet (fail)
  go_wp2
  go_ret
  refine ⟨?_, _, rfl⟩
  simp (disch := omega) only [u32_hi8, u32_hi16, u32_hi24]
  rfl

set_option maxRecDepth 100000 in
set_option maxHeartbeats 400000 in
theorem le16 (g o n c : Nat) (x0 x1 : Int) (w : World) (hn : 2 ≤ n) (h0 : 0 ≤ x0 ∧ x0 ≤ 255) (h1 : 0 ≤ x1 ∧ x1 ≤ 255)
    (c0 : w.cell? ⟨g, o, none⟩ = some (.int .u8 x0)) (c1 : w.cell? ⟨g, o + 1, none⟩ = some (.int .u8 x1)) :
    Calls Tryf.prog 27 #[.slice (some ⟨g, o, none⟩) n c] w fun e w' => e = .returned (.int .u32 (x0 + x1 * 256)) ∧ ∃ k, w' = w.drewN k := by
  obtain ⟨h0a, h0b⟩ := h0; obtain ⟨h1a, h1b⟩ := h1
  go_enter Tryf.func27, Tryf.ntmps27
  go_wp2
  go_quiet (fail)
  go_wp2
  go_ret
  refine ⟨?_, _, rfl⟩
  simp (disch := omega) only [u32_or8]
  rfl

set_option maxRecDepth 100000 in
set_option maxHeartbeats 400000 in
theorem be16 (g o n c : Nat) (x0 x1 : Int) (w : World) (hn : 2 ≤ n) (h0 : 0 ≤ x0 ∧ x0 ≤ 255) (h1 : 0 ≤ x1 ∧ x1 ≤ 255)
    (c0 : w.cell? ⟨g, o, none⟩ = some (.int .u8 x0)) (c1 : w.cell? ⟨g, o + 1, none⟩ = some (.int .u8 x1)) :
    Calls Tryf.prog 28 #[.slice (some ⟨g, o, none⟩) n c] w fun e w' => e = .returned (.int .u32 (x0 * 256 + x1)) ∧ ∃ k, w' = w.drewN k := by
  obtain ⟨h0a, h0b⟩ := h0; obtain ⟨h1a, h1b⟩ := h1
  go_enter Tryf.func28, Tryf.ntmps28
  go_wp2
  go_quiet (fail)
  go_wp2
  go_ret
  refine ⟨?_, _, rfl⟩
  simp (disch := omega) only [u32_hi8]
  rfl

set_option maxRecDepth 100000 in
set_option maxHeartbeats 400000 in
theorem leU32 (g o n c : Nat) (x0 x1 x2 x3 : Int) (w : World) (hn : 4 ≤ n) (h0 : 0 ≤ x0 ∧ x0 ≤ 255) (h1 : 0 ≤ x1 ∧ x1 ≤ 255) (h2 : 0 ≤ x2 ∧ x2 ≤ 255) (h3 : 0 ≤ x3 ∧ x3 ≤ 255)
    (c0 : w.cell? ⟨g, o, none⟩ = some (.int .u8 x0)) (c1 : w.cell? ⟨g, o + 1, none⟩ = some (.int .u8 x1)) (c2 : w.cell? ⟨g, o + 2, none⟩ = some (.int .u8 x2)) (c3 : w.cell? ⟨g, o + 3, none⟩ = some (.int .u8 x3)) :
    Calls Tryf.prog 41 #[.agg #[], .slice (some ⟨g, o, none⟩) n c] w fun e w' => e = .returned (.int .u32 (x0 + x1 * 256 + x2 * 65536 + x3 * 16777216)) ∧ w' = (w.alloc (.cells #[] 100)).drew := by
  obtain ⟨h0a, h0b⟩ := h0; obtain ⟨h1a, h1b⟩ := h1; obtain ⟨h2a, h2b⟩ := h2; obtain ⟨h3a, h3b⟩ := h3
  have d0 := cell?_alloc_old (.cells #[] 100) c0
  have d1 := cell?_alloc_old (.cells #[] 100) c1
  have d2 := cell?_alloc_old (.cells #[] 100) c2
  have d3 := cell?_alloc_old (.cells #[] 100) c3
  go_enter Tryf.func41, Tryf.ntmps41
  go_wp2
  go_region
  go_wp2
  go_ret
  refine ⟨?_, rfl⟩
  simp (disch := omega) only [u32_or8, u32_or16, u32_or24]
  rfl

set_option maxRecDepth 100000 in
set_option maxHeartbeats 400000 in
theorem beU32 (g o n c : Nat) (x0 x1 x2 x3 : Int) (w : World) (hn : 4 ≤ n) (h0 : 0 ≤ x0 ∧ x0 ≤ 255) (h1 : 0 ≤ x1 ∧ x1 ≤ 255) (h2 : 0 ≤ x2 ∧ x2 ≤ 255) (h3 : 0 ≤ x3 ∧ x3 ≤ 255)
    (c0 : w.cell? ⟨g, o, none⟩ = some (.int .u8 x0)) (c1 : w.cell? ⟨g, o + 1, none⟩ = some (.int .u8 x1)) (c2 : w.cell? ⟨g, o + 2, none⟩ = some (.int .u8 x2)) (c3 : w.cell? ⟨g, o + 3, none⟩ = some (.int .u8 x3)) :
    Calls Tryf.prog 94 #[.agg #[], .slice (some ⟨g, o, none⟩) n c] w fun e w' => e = .returned (.int .u32 (x3 + x2 * 256 + x1 * 65536 + x0 * 16777216)) ∧ w' = (w.alloc (.cells #[] 102)).drew := by
  obtain ⟨h0a, h0b⟩ := h0; obtain ⟨h1a, h1b⟩ := h1; obtain ⟨h2a, h2b⟩ := h2; obtain ⟨h3a, h3b⟩ := h3
  have d0 := cell?_alloc_old (.cells #[] 102) c0
  have d1 := cell?_alloc_old (.cells #[] 102) c1
  have d2 := cell?_alloc_old (.cells #[] 102) c2
  have d3 := cell?_alloc_old (.cells #[] 102) c3
  go_enter Tryf.func94, Tryf.ntmps94
  go_wp2
  go_region
  go_wp2
  go_ret
  refine ⟨?_, rfl⟩
  simp (disch := omega) only [u32_or8, u32_or16, u32_or24]
  rfl

set_option maxRecDepth 100000 in
set_option maxHeartbeats 400000 in
theorem leU16 (g o n c : Nat) (x0 x1 : Int) (w : World) (hn : 2 ≤ n) (h0 : 0 ≤ x0 ∧ x0 ≤ 255) (h1 : 0 ≤ x1 ∧ x1 ≤ 255)
    (c0 : w.cell? ⟨g, o, none⟩ = some (.int .u8 x0)) (c1 : w.cell? ⟨g, o + 1, none⟩ = some (.int .u8 x1)) :
    Calls Tryf.prog 86 #[.agg #[], .slice (some ⟨g, o, none⟩) n c] w fun e w' => e = .returned (.int .u16 (x0 + x1 * 256)) ∧ w' = (w.alloc (.cells #[] 100)).drew := by
  obtain ⟨h0a, h0b⟩ := h0; obtain ⟨h1a, h1b⟩ := h1
  have d0 := cell?_alloc_old (.cells #[] 100) c0
  have d1 := cell?_alloc_old (.cells #[] 100) c1
  go_enter Tryf.func86, Tryf.ntmps86
  go_wp2
  go_region
  go_wp2
  go_ret
  refine ⟨?_, rfl⟩
  simp (disch := omega) only [u16_or8]
  rfl

set_option maxRecDepth 100000 in
set_option maxHeartbeats 400000 in
theorem beU16 (g o n c : Nat) (x0 x1 : Int) (w : World) (hn : 2 ≤ n) (h0 : 0 ≤ x0 ∧ x0 ≤ 255) (h1 : 0 ≤ x1 ∧ x1 ≤ 255)
    (c0 : w.cell? ⟨g, o, none⟩ = some (.int .u8 x0)) (c1 : w.cell? ⟨g, o + 1, none⟩ = some (.int .u8 x1)) :
    Calls Tryf.prog 93 #[.agg #[], .slice (some ⟨g, o, none⟩) n c] w fun e w' => e = .returned (.int .u16 (x1 + x0 * 256)) ∧ w' = (w.alloc (.cells #[] 102)).drew := by
  obtain ⟨h0a, h0b⟩ := h0; obtain ⟨h1a, h1b⟩ := h1
  have d0 := cell?_alloc_old (.cells #[] 102) c0
  have d1 := cell?_alloc_old (.cells #[] 102) c1
  go_enter Tryf.func93, Tryf.ntmps93
  go_wp2
  go_region
  go_wp2
  go_ret
  refine ⟨?_, rfl⟩
  simp (disch := omega) only [u16_or8]
  rfl

set_option maxRecDepth 100000 in
set_option maxHeartbeats 400000 in
theorem bswap_micros (w : World) : Calls Tryf.prog 42 #[.int .u32 2712847316] w fun e w' => e = .returned (.int .u32 3569595041) ∧ w' = w := by
  go_enter Tryf.func42, Tryf.ntmps42
  go_wp2
  go_ret
  exact ⟨rfl, rfl⟩

set_option maxRecDepth 100000 in
set_option maxHeartbeats 400000 in
theorem bswap_nanos (w : World) : Calls Tryf.prog 42 #[.int .u32 2712812621] w fun e w' => e = .returned (.int .u32 1295823521) ∧ w' = w := by
  go_enter Tryf.func42, Tryf.ntmps42
  go_wp2
  go_ret
  exact ⟨rfl, rfl⟩

set_option maxRecDepth 100000 in
set_option maxHeartbeats 400000 in
theorem nanos_any (x : Nat → Int) (ord : Value) (nn : Bool) (w : World) :
    Calls Tryf.prog 14 #[.agg (hdrA x ord nn)] w fun e w' => e = .returned (.bool nn) ∧ Below w.heap.size w w' := by
  have hq := hdrA_nn x ord nn
  go_enter Tryf.func14, Tryf.ntmps14
  go_wp2
  go_ret
  exact ⟨rfl, (Below.refl _ _).alloc (Nat.le_refl _) _⟩

set_option maxRecDepth 100000 in
set_option maxHeartbeats 400000 in
theorem raw_any (x : Nat → Int) (ord : Value) (nn : Bool) (w : World) :
    Calls Tryf.prog 13 #[.agg (hdrA x ord nn)] w fun e w' => e = .returned (.agg (rawA x)) ∧ Below w.heap.size w w' := by
  go_enter Tryf.func13, Tryf.ntmps13
  go_wp2_with (first
    | (refine wpList_load_sub rfl 33 _ rfl w.heap.size 0 24 rfl 37 (hdrA x ord nn) (0, 0) _ (heap_alloc2_old w _ _) Tryf.underlying33 rfl Tryf.info33 (by rw [hdrA_size]; omega) ?_; rw [hdrA_raw])
    | (refine wpList_store_top rfl 33 _ _ rfl (w.heap.size + 1) (rawA x) rfl rfl 33 _ (by simp) (by rw [rawA_size]; exact Tryf.info33) (by rw [rawA_size]; rfl) (rawA_one x) ?_))
  exact bodyPost_ret (v := .agg (rawA x)) (results_cell_row Tryf.results13 _ _ (w.heap.size + 1) 33 (rawA x) (0, 0) _ rfl (heap_alloc2_new w _ _) Tryf.underlying33 rfl (by rw [rawA_size]; exact Tryf.info33)) rfl
    ⟨rfl, ((Below.refl _ _).alloc (Nat.le_refl _) _).alloc (by simp) _⟩

set_option maxRecDepth 100000 in
set_option maxHeartbeats 400000 in
theorem link_le (x : Nat → Int) (nn : Bool) (w : World) (hx : ∀ j, 0 ≤ x j ∧ x j ≤ 255) :
    Calls Tryf.prog 15 #[.agg (hdrA x (.iface 100 (.agg #[])) nn)] w fun e w' => e = .returned (.int .u32 (bits .and .u32 (x 20 + x 21 * 256 + x 22 * 65536 + x 23 * 16777216) 67108863)) ∧ Below w.heap.size w w' := by
  have q0 := hdrA_ord x (.iface 100 (.agg #[])) nn
  have q20 := hdrA_get x (.iface 100 (.agg #[])) nn 20 (by omega)
  have q21 := hdrA_get x (.iface 100 (.agg #[])) nn 21 (by omega)
  have q22 := hdrA_get x (.iface 100 (.agg #[])) nn 22 (by omega)
  have q23 := hdrA_get x (.iface 100 (.agg #[])) nn 23 (by omega)
  have hm := Tryf.mLeU32
  go_enter Tryf.func15, Tryf.ntmps15
  go_wp2
  go_region_with (go_at_call 41; refine (leU32 _ _ _ _ _ _ _ _ _ (by omega) (hx 20) (hx 21) (hx 22) (hx 23) ?_ ?_ ?_ ?_).mono ?_; (· go_simp); (· go_simp); (· go_simp); (· go_simp); rintro e w' ⟨rfl, rfl⟩)
  all_goals (try go_wp2)
  go_ret
  exact ⟨rfl, ((((Below.refl _ _).alloc (Nat.le_refl _) _).alloc (by simp) _).drew).drew⟩

set_option maxRecDepth 100000 in
set_option maxHeartbeats 400000 in
theorem link_be (x : Nat → Int) (nn : Bool) (w : World) (hx : ∀ j, 0 ≤ x j ∧ x j ≤ 255) :
    Calls Tryf.prog 15 #[.agg (hdrA x (.iface 102 (.agg #[])) nn)] w fun e w' => e = .returned (.int .u32 (bits .and .u32 (x 23 + x 22 * 256 + x 21 * 65536 + x 20 * 16777216) 67108863)) ∧ Below w.heap.size w w' := by
  have q0 := hdrA_ord x (.iface 102 (.agg #[])) nn
  have q20 := hdrA_get x (.iface 102 (.agg #[])) nn 20 (by omega)
  have q21 := hdrA_get x (.iface 102 (.agg #[])) nn 21 (by omega)
  have q22 := hdrA_get x (.iface 102 (.agg #[])) nn 22 (by omega)
  have q23 := hdrA_get x (.iface 102 (.agg #[])) nn 23 (by omega)
  have hm := Tryf.mBeU32
  go_enter Tryf.func15, Tryf.ntmps15
  go_wp2
  go_region_with (go_at_call 94; refine (beU32 _ _ _ _ _ _ _ _ _ (by omega) (hx 20) (hx 21) (hx 22) (hx 23) ?_ ?_ ?_ ?_).mono ?_; (· go_simp); (· go_simp); (· go_simp); (· go_simp); rintro e w' ⟨rfl, rfl⟩)
  all_goals (try go_wp2)
  go_ret
  exact ⟨rfl, ((((Below.refl _ _).alloc (Nat.le_refl _) _).alloc (by simp) _).drew).drew⟩

end Go.Proofs.Qxb6616658aFmt
