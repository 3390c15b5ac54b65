import Derived.Test.Qxb6616658aFmtPar0
namespace Go.Proofs.Qxb6616658aFmt
open Go.RowKit Go.Extern.Stop Go.Stop Go.Extern

set_option maxRecDepth 100000 in
set_option maxHeartbeats 1000000 in
theorem parse_be_ok (x : Nat → Int) (nn : Bool) (w : World) (hx : ∀ j, 0 ≤ x j ∧ x j ≤ 255)
    (hm : (le4 x 0 = 3569595041 ∧ nn = false) ∨ (le4 x 0 = 1295823521 ∧ nn = true)) (v1 : (be2 x 4 != 2) = false) (v2 : (be2 x 6 != 4) = false) :
    Calls Tryf.prog 37 #[.agg (rawA x)] w fun e w' => e = .returned (.tuple #[.agg (hdrA x (.iface 102 (.agg #[])) nn), .nilIface]) ∧ Below w.heap.size w w' := by
  have HX : Hid (∀ j, 0 ≤ x j ∧ x j ≤ 255) := hx
  clear hx
  rcases hm with ⟨hm, rfl⟩ | ⟨hm, rfl⟩
  all_goals
    go_enter Tryf.func37, Tryf.ntmps37
    go_wp2_with (guard_target = wpList _ _ _ _ _ _; first
      | (refine wpList_load_row rfl 33 _ rfl w.heap.size rfl 33 (rawA x) (0, 0) _ (heap_alloc2_old w _ _) Tryf.underlying33 rfl (by rw [rawA_size]; exact Tryf.info33) ?_)
      | (refine wpList_build_eq rfl 37 #[(0, .tmp 8)] rfl [(0, .agg (rawA x))] (hdrA x .nilIface false) (built0 x) (by kernel_rfl) ?_)
      | (refine wpList_store_top rfl 37 _ _ rfl (w.heap.size + 1 + 1) (hdrA x .nilIface false) rfl rfl 37 _ (by simp) (by rw [hdrA_size]; exact Tryf.info37) (by rw [hdrA_size]; rfl) (hdrA_one x _ _ rfl) ?_))
    go_region_with (go_at_call 41; refine (leU32n x _ _ _ _ _ ?_ HX.out ?_).mono ?_; (· omega); (· intro j h1 h2; have hj : j < 24 := (by omega); have hr := rawA_get x j hj; go_simp); rintro e w' ⟨rfl, rfl⟩)
    have q24 := hdrA_ord x .nilIface false
    have q25 := hdrA_nn x (.iface 102 (.agg #[])) false
    have s24 := hdrA_set24 x .nilIface (.iface 102 (.agg #[])) false
    have s25 := hdrA_set25 x (.iface 102 (.agg #[])) false
    go_wp2_with (first | (go_at_call_of 42 (Value.int .u32 2712847316); refine (bswap_micros _).mono ?_; rintro e w' ⟨rfl, rfl⟩) | (go_at_call_of 42 (Value.int .u32 2712812621); refine (bswap_nanos _).mono ?_; rintro e w' ⟨rfl, rfl⟩))
    have q24' : ∀ b, (hdrA x (.iface 102 (.agg #[])) b)[24]? = some (.iface 102 (.agg #[])) := hdrA_ord x (.iface 102 (.agg #[]))
    have hm16 := Tryf.mBeU16
    go_region_with (go_at_call 93; refine (beU16n x _ _ _ _ _ ?_ HX.out ?_).mono ?_; (· omega); (· intro j h1 h2; have hj : j < 24 := (by omega); have hr := rawA_get x j hj; go_simp); rintro e w' ⟨rfl, rfl⟩)
    all_goals
      clear q24 q25 s24 s25 q24' hm16
      go_wp2_with (guard_target = wpList _ _ _ _ _ _; first
        | (refine wpList_load_row rfl 37 _ rfl (w.heap.size + 1 + 1) rfl 37 (hdrA x (.iface 102 (.agg #[])) _) (0, 0) _ (heap_up (heap_up (heap_up (heap_at _ _ _ (by simp))))) Tryf.underlying37 rfl (by rw [hdrA_size]; exact Tryf.info37) ?_)
        | (refine wpList_store_row rfl 37 _ _ rfl (w.heap.size + 1) (hdrA x (.iface 102 (.agg #[])) _) rfl rfl 37 (hdrA (fun _ => 0) .nilIface false) (heap_up (heap_up (heap_up (heap_up (heap_at _ _ _ (by simp)))))) (by rw [hdrA_size]; exact Tryf.info37) (by rw [hdrA_size, hdrA_size]) (hdrA_one _ _ _ rfl) ?_))
      exact bodyPost_ret (v := .tuple #[.agg (hdrA x (.iface 102 (.agg #[])) _), .nilIface]) (results_row_tmp Tryf.results37 _ _ (w.heap.size + 1) 37 _ (0, 0) _ _ rfl rfl (setRow_heap _ _ (hdrA (fun _ => 0) .nilIface false) _ 37 (0, 0) (heap_up (heap_up (heap_up (heap_up (heap_at _ _ _ (by simp))))))) Tryf.underlying37 rfl (by rw [hdrA_size]; exact Tryf.info37)) rfl
        ⟨rfl, below_setRow (by repeat (first | exact Below.refl _ _ | refine Below.drew ?_ | refine Below.alloc ?_ (by simp <;> omega) _)) (by omega) _⟩

end Go.Proofs.Qxb6616658aFmt
