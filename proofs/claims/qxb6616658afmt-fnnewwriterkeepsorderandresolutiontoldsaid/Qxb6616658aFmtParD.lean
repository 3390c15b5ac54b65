import Derived.Test.Qxb6616658aFmtParC
namespace Go.Proofs.Qxb6616658aFmt
open Go.RowKit Go.Extern.Stop Go.Stop Go.Extern

set_option maxRecDepth 100000 in
set_option maxHeartbeats 2000000 in
theorem parse_le_bad (F : Interp) (x : Nat → Int) (w : World) (hF : F.answers w.tape) (hx : ∀ j, 0 ≤ x j ∧ x j ≤ 255)
    (hm : le4 x 0 = 2712847316 ∨ le4 x 0 = 2712812621) (hv : (le2 x 4 != 2) = true ∨ (le2 x 4 != 2) = false ∧ (le2 x 6 != 4) = true) :
    Calls Tryf.prog 37 #[.agg (rawA x)] w fun e w' => (∃ a, e = .returned (.tuple #[.agg hdrZ, .iface 96 (.pointer (some a))])) ∧ Below w.heap.size w w' := by
  have HX : Hid (∀ j, 0 ≤ x j ∧ x j ≤ 255) := hx
  have HF : Hid (F.answers w.tape) := hF
  clear hx hF
  rcases hm with hm | hm
  all_goals rcases hv with hv | ⟨hv, hv2⟩
  all_goals
    go_enter Tryf.func37, Tryf.ntmps37
    go_wp2_with (guard_target = wpList _ _ _ _ _ _; first
      | (refine wpList_load_row rfl 33 _ rfl w.heap.size rfl 33 (rawA x) (0, 0) _ (heap_alloc2_old w _ _) Tryf.underlying33 rfl (by rw [rawA_size]; exact Tryf.info33) ?_)
      | (refine wpList_build_eq rfl 37 #[(0, .tmp 8)] rfl [(0, .agg (rawA x))] (hdrA x .nilIface false) (built0 x) (by kernel_rfl) ?_)
      | (refine wpList_store_top rfl 37 _ _ rfl (w.heap.size + 1 + 1) (hdrA x .nilIface false) rfl rfl 37 _ (by simp) (by rw [hdrA_size]; exact Tryf.info37) (by rw [hdrA_size]; rfl) (hdrA_one x _ _ rfl) ?_))
    go_region_with (go_at_call 41; refine (leU32n x _ _ _ _ _ ?_ HX.out ?_).mono ?_; (· omega); (· intro j h1 h2; have hj : j < 24 := (by omega); have hr := rawA_get x j hj; go_simp); rintro e w' ⟨rfl, rfl⟩)
    have q24 := hdrA_ord x .nilIface false
    have q25 := hdrA_nn x (.iface 100 (.agg #[])) false
    have s24 := hdrA_set24 x .nilIface (.iface 100 (.agg #[])) false
    have s25 := hdrA_set25 x (.iface 100 (.agg #[])) false
    go_wp2
    have q24' : ∀ b, (hdrA x (.iface 100 (.agg #[])) b)[24]? = some (.iface 100 (.agg #[])) := hdrA_ord x (.iface 100 (.agg #[]))
    have hm16 := Tryf.mLeU16
    go_region_with (go_at_call 86; refine (leU16n x _ _ _ _ _ ?_ HX.out ?_).mono ?_; (· omega); (· intro j h1 h2; have hj : j < 24 := (by omega); have hr := rawA_get x j hj; go_simp); rintro e w' ⟨rfl, rfl⟩)
    all_goals
      clear q24 q25 s24 s25 q24' hm16
      go_wp2_with (first
        | (guard_target = wpList _ _ _ _ _ _; refine wpList_build_eq rfl 37 #[] rfl [] hdrZ builtZ (by kernel_rfl) ?_)
        | (go_at_call 43; refine (errorf_version F (le2 x 4) (le2 x 6) (w.heap.size + 1 + 1 + 1 + 1 + 1 + 1) _ ?_ ?_ ?_).mono ?_; (· exact HF.out); (· go_simp); (· go_simp); rintro e w' ⟨⟨a, rfl⟩, hb⟩; have HB : Hid (w'.heap[w.heap.size + 1]? = some (.cells hdrZ 37 (0, 0))) := ((hb.block _ (by simp <;> omega)).trans (heap_up (heap_up (heap_up (heap_up (heap_up (heap_at _ _ _ (by simp)))))))); have HL : Hid (Below w.heap.size w w') := (Below.trans (by repeat (first | exact Below.refl _ _ | refine Below.drew ?_ | refine Below.alloc ?_ (by simp <;> omega) _)) (hb.mono (by simp <;> omega))); clear hb)
        | (guard_target = wpList _ _ _ _ _ _; refine wpList_store_row rfl 37 _ _ rfl (w.heap.size + 1) hdrZ rfl rfl 37 hdrZ HB.out (by unfold hdrZ; rw [hdrA_size]; exact Tryf.info37) rfl (hdrA_one _ _ _ rfl) ?_))
      exact bodyPost_ret (v := .tuple #[.agg hdrZ, .iface 96 (.pointer (some _))]) (results_row_tmp Tryf.results37 _ _ (w.heap.size + 1) 37 _ (0, 0) _ _ rfl rfl (setRow_heap _ _ hdrZ _ 37 (0, 0) HB.out) Tryf.underlying37 rfl (by unfold hdrZ; rw [hdrA_size]; exact Tryf.info37)) rfl
        ⟨⟨_, rfl⟩, below_setRow HL.out (by omega) _⟩

end Go.Proofs.Qxb6616658aFmt
