import Derived.Test.Qxb6616924aWords
namespace Go.Proofs.Qxb6616924a
open Go.ChangeShapes Go.WideShapes Go.ChangeAt Go.RowKit

set_option maxRecDepth 100000 in
set_option maxHeartbeats 400000 in
theorem law_core (hi lo v sl sh : Int) (ok : Bool) (w : World)
    (hA : ∀ w, Calls Try.prog 5 #[.agg #[.int .u64 hi, .int .u64 lo], .int .u64 v] w fun e w' => e = .returned (.tuple #[.agg #[.int .u64 sh, .int .u64 sl], .bool ok]) ∧ ∃ c1 c2 c3 c4 c5 c6 c7 : Array Value, w' = ((((((w.alloc (.cells c1 24)).alloc (.cells c2 24)).alloc (.cells c3 24)).alloc (.cells c4 24)).alloc (.cells c5 24)).alloc (.cells c6 24)).alloc (.cells c7 24))
    (hB : ∀ w, Calls Try.prog 6 #[.agg #[.int .u64 sh, .int .u64 sl], .agg #[.int .u64 0, .int .u64 v]] w fun e w' => e = .returned (.tuple #[.agg #[.int .u64 hi, .int .u64 lo], .bool ok]) ∧ ∃ c1 c2 c3 c4 c5 c6 : Array Value, w' = (((((w.alloc (.cells c1 24)).alloc (.cells c2 24)).alloc (.cells c3 24)).alloc (.cells c4 24)).alloc (.cells c5 24)).alloc (.cells c6 24))
    (hw : IntKind.u64.wrap (lo + v) = sl) (hlt : sl < lo) (hh : IntKind.u64.wrap (hi + 1) = sh) (hok : (hi != 18446744073709551615) = ok) :
    Calls Try.prog 3 #[.int .u64 hi, .int .u64 lo, .int .u64 v] w fun e w' => e = .returned (.bool true) ∧ Grown w w' := by
  have HA := mkHid hA
  have HB := mkHid hB
  clear hA hB
  go_enter Try.func3, Try.ntmps3
  go_wp2_with (first
    | (go_at_call 5; refine (HA.out _).mono ?_; rintro e w' ⟨rfl, c1, c2, c3, c4, c5, c6, c7, rfl⟩)
    | (go_at_call 6; refine (HB.out _).mono ?_; rintro e w' ⟨rfl, d1, d2, d3, d4, d5, d6, rfl⟩))
  go_ret
  exact ⟨rfl, by repeat (first | apply Grown.alloc | exact Grown.refl _)⟩
set_option maxRecDepth 100000 in
set_option maxHeartbeats 400000 in
theorem law_core0 (hi lo v sl sh : Int) (ok : Bool) (w : World)
    (hA : ∀ w, Calls Try.prog 5 #[.agg #[.int .u64 hi, .int .u64 lo], .int .u64 v] w fun e w' => e = .returned (.tuple #[.agg #[.int .u64 sh, .int .u64 sl], .bool ok]) ∧ ∃ c1 c2 c3 c4 c5 c6 c7 : Array Value, w' = ((((((w.alloc (.cells c1 24)).alloc (.cells c2 24)).alloc (.cells c3 24)).alloc (.cells c4 24)).alloc (.cells c5 24)).alloc (.cells c6 24)).alloc (.cells c7 24))
    (hB : ∀ w, Calls Try.prog 6 #[.agg #[.int .u64 sh, .int .u64 sl], .agg #[.int .u64 0, .int .u64 v]] w fun e w' => e = .returned (.tuple #[.agg #[.int .u64 hi, .int .u64 lo], .bool ok]) ∧ ∃ c1 c2 c3 c4 c5 c6 : Array Value, w' = (((((w.alloc (.cells c1 24)).alloc (.cells c2 24)).alloc (.cells c3 24)).alloc (.cells c4 24)).alloc (.cells c5 24)).alloc (.cells c6 24))
    (hw : IntKind.u64.wrap (lo + v) = sl) (hlt : ¬ sl < lo) (hh : IntKind.u64.wrap hi = sh) (hok : true = ok) :
    Calls Try.prog 3 #[.int .u64 hi, .int .u64 lo, .int .u64 v] w fun e w' => e = .returned (.bool true) ∧ Grown w w' := by
  have HA := mkHid hA
  have HB := mkHid hB
  clear hA hB
  subst hok
  go_enter Try.func3, Try.ntmps3
  go_wp2_with (first
    | (go_at_call 5; refine (HA.out _).mono ?_; rintro e w' ⟨rfl, c1, c2, c3, c4, c5, c6, c7, rfl⟩)
    | (go_at_call 6; refine (HB.out _).mono ?_; rintro e w' ⟨rfl, d1, d2, d3, d4, d5, d6, rfl⟩))
  go_ret
  exact ⟨rfl, by repeat (first | apply Grown.alloc | exact Grown.refl _)⟩

theorem wrap_id (x : Int) (h0 : 0 ≤ x) (h1 : x < 18446744073709551616) : IntKind.u64.wrap x = x := by
  rw [IntKind.wrap_u64]; omega

theorem walk (hi lo v : Int) (b0 : 0 ≤ hi ∧ hi < 18446744073709551616) (b1 : 0 ≤ lo ∧ lo < 18446744073709551616) (b2 : 0 ≤ v ∧ v < 18446744073709551616) (w : World) :
    Calls Try.prog 3 #[.int .u64 hi, .int .u64 lo, .int .u64 v] w fun e w' => e = .returned (.bool true) ∧ Grown w w' := by
  by_cases hc : lo + v < 18446744073709551616
  · -- no carry
    refine law_core0 hi lo v (lo + v) hi true w (fun w => add64_5 hi lo v (lo + v) hi true w (fun w => add_any hi lo 0 v (lo + v) hi 0 0 w (fun w => add64_run _ _ _ _ _ (by omega) (by omega) (Or.inl rfl) (by omega) (by omega) w) (fun w => add64_run _ _ _ _ _ (by omega) (by omega) (Or.inl rfl) (by omega) (by omega) w)))
      (fun w => sub_6 hi (lo + v) 0 v lo hi true w (fun w => sub_any hi (lo + v) 0 v lo hi 0 0 w (fun w => sub64_run _ _ _ _ _ (by omega) (by omega) (Or.inl rfl) (by omega) (by omega) (Or.inl rfl) (by omega) w) (fun w => sub64_run _ _ _ _ _ (by omega) (by omega) (Or.inl rfl) (by omega) (by omega) (Or.inl rfl) (by omega) w)))
      (wrap_id _ (by omega) hc) (by omega) (wrap_id _ b0.1 b0.2) rfl
  · by_cases hm : hi = 18446744073709551615
    · -- the carry leaves the top
      subst hm
      refine law_core 18446744073709551615 lo v (lo + v - 18446744073709551616) 0 false w (fun w => add64_5 18446744073709551615 lo v (lo + v - 18446744073709551616) 0 false w (fun w => add_any 18446744073709551615 lo 0 v (lo + v - 18446744073709551616) 0 1 1 w (fun w => add64_run _ _ _ _ _ (by omega) (by omega) (Or.inl rfl) (by omega) (by omega) w) (fun w => add64_run _ _ _ _ _ (by omega) (by omega) (Or.inr rfl) (by omega) (by omega) w)))
        (fun w => sub_6 0 (lo + v - 18446744073709551616) 0 v lo 18446744073709551615 false w (fun w => sub_any 0 (lo + v - 18446744073709551616) 0 v lo 18446744073709551615 1 1 w (fun w => sub64_run _ _ _ _ _ (by omega) (by omega) (Or.inl rfl) (by omega) (by omega) (Or.inr rfl) (by omega) w) (fun w => sub64_run _ _ _ _ _ (by omega) (by omega) (Or.inr rfl) (by omega) (by omega) (Or.inr rfl) (by omega) w)))
        (by rw [IntKind.wrap_u64]; omega) (by omega) (by rw [IntKind.wrap_u64]; omega) rfl
    · refine law_core hi lo v (lo + v - 18446744073709551616) (hi + 1) true w (fun w => add64_5 hi lo v (lo + v - 18446744073709551616) (hi + 1) true w (fun w => add_any hi lo 0 v (lo + v - 18446744073709551616) (hi + 1) 1 0 w (fun w => add64_run _ _ _ _ _ (by omega) (by omega) (Or.inl rfl) (by omega) (by omega) w) (fun w => add64_run _ _ _ _ _ (by omega) (by omega) (Or.inr rfl) (by omega) (by omega) w)))
        (fun w => sub_6 (hi + 1) (lo + v - 18446744073709551616) 0 v lo hi true w (fun w => sub_any (hi + 1) (lo + v - 18446744073709551616) 0 v lo hi 1 0 w (fun w => sub64_run _ _ _ _ _ (by omega) (by omega) (Or.inl rfl) (by omega) (by omega) (Or.inr rfl) (by omega) w) (fun w => sub64_run _ _ _ _ _ (by omega) (by omega) (Or.inr rfl) (by omega) (by omega) (Or.inl rfl) (by omega) w)))
        (by rw [IntKind.wrap_u64]; omega) (by omega) (wrap_id _ (by omega) (by omega)) (by simp; omega)
end Go.Proofs.Qxb6616924a
