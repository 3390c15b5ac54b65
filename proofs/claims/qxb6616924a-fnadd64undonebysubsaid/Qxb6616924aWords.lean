import Derived.Test.Qxb6616924aRows
import Derived.WalkKit
import Derived.ProofKit
import Derived.OpenShut
import Derived.ShutString
import Derived.Stop.CallBack
namespace Go.Proofs.Qxb6616924a
open Go.ChangeShapes Go.WideShapes Go.ChangeAt Go.RowKit

theorem add0 (x y : Nat) (w : World) : (callFunc 11 #[.int .u64 (x : Int), .int .u64 (y : Int), .int .u64 0]).run Try.prog w = .ok (.value (.tuple #[.int .u64 (((x + y + 0) % 18446744073709551616 : Nat) : Int), .int .u64 (((x + y + 0) / 18446744073709551616 : Nat) : Int)])) w := by kernel_rfl
theorem add1 (x y : Nat) (w : World) : (callFunc 11 #[.int .u64 (x : Int), .int .u64 (y : Int), .int .u64 1]).run Try.prog w = .ok (.value (.tuple #[.int .u64 (((x + y + 1) % 18446744073709551616 : Nat) : Int), .int .u64 (((x + y + 1) / 18446744073709551616 : Nat) : Int)])) w := by kernel_rfl
theorem sub0 (x y : Nat) (w : World) : (callFunc 10 #[.int .u64 (x : Int), .int .u64 (y : Int), .int .u64 0]).run Try.prog w = .ok (.value (.tuple #[.int .u64 (((x + 18446744073709551616 - y - 0) % 18446744073709551616 : Nat) : Int), .int .u64 ((if x < y + 0 then 1 else 0 : Nat) : Int)])) w := by kernel_rfl
theorem sub1 (x y : Nat) (w : World) : (callFunc 10 #[.int .u64 (x : Int), .int .u64 (y : Int), .int .u64 1]).run Try.prog w = .ok (.value (.tuple #[.int .u64 (((x + 18446744073709551616 - y - 1) % 18446744073709551616 : Nat) : Int), .int .u64 ((if x < y + 1 then 1 else 0 : Nat) : Int)])) w := by kernel_rfl

theorem add64_run (x y c s k : Int) (hx : 0 ≤ x) (hy : 0 ≤ y) (hc : c = 0 ∨ c = 1) (hs : 0 ≤ s ∧ s < 18446744073709551616) (he : x + y + c = s + k * 18446744073709551616) (w : World) :
    (callFunc 11 #[.int .u64 x, .int .u64 y, .int .u64 c]).run Try.prog w = .ok (.value (.tuple #[.int .u64 s, .int .u64 k])) w := by
  obtain ⟨x, rfl⟩ := Int.eq_ofNat_of_zero_le hx
  obtain ⟨y, rfl⟩ := Int.eq_ofNat_of_zero_le hy
  rcases hc with rfl | rfl
  · rw [add0]
    have h1 : (((x + y + 0) % 18446744073709551616 : Nat) : Int) = s := by omega
    have h2 : (((x + y + 0) / 18446744073709551616 : Nat) : Int) = k := by omega
    rw [h1, h2]
  · rw [add1]
    have h1 : (((x + y + 1) % 18446744073709551616 : Nat) : Int) = s := by omega
    have h2 : (((x + y + 1) / 18446744073709551616 : Nat) : Int) = k := by omega
    rw [h1, h2]

theorem sub64_run (x y b d k : Int) (hx : 0 ≤ x) (hy : 0 ≤ y ∧ y < 18446744073709551616) (hb : b = 0 ∨ b = 1) (hd : 0 ≤ d ∧ d < 18446744073709551616) (hx' : x < 18446744073709551616) (_hk : k = 0 ∨ k = 1) (he : x - y - b = d - k * 18446744073709551616) (w : World) :
    (callFunc 10 #[.int .u64 x, .int .u64 y, .int .u64 b]).run Try.prog w = .ok (.value (.tuple #[.int .u64 d, .int .u64 k])) w := by
  obtain ⟨x, rfl⟩ := Int.eq_ofNat_of_zero_le hx
  obtain ⟨hy0, hy1⟩ := hy
  obtain ⟨y, rfl⟩ := Int.eq_ofNat_of_zero_le hy0
  rcases hb with rfl | rfl
  · rw [sub0]
    have h1 : (((x + 18446744073709551616 - y - 0) % 18446744073709551616 : Nat) : Int) = d := by omega
    have h2 : ((if x < y + 0 then 1 else 0 : Nat) : Int) = k := by split <;> omega
    rw [h1, h2]
  · rw [sub1]
    have h1 : (((x + 18446744073709551616 - y - 1) % 18446744073709551616 : Nat) : Int) = d := by omega
    have h2 : ((if x < y + 1 then 1 else 0 : Nat) : Int) = k := by split <;> omega
    rw [h1, h2]

theorem add_any (uh ul vh vl sl sh c k : Int) (w : World)
    (r1 : ∀ w, (callFunc 11 #[.int .u64 ul, .int .u64 vl, .int .u64 0]).run Try.prog w = .ok (.value (.tuple #[.int .u64 sl, .int .u64 c])) w)
    (r2 : ∀ w, (callFunc 11 #[.int .u64 uh, .int .u64 vh, .int .u64 c]).run Try.prog w = .ok (.value (.tuple #[.int .u64 sh, .int .u64 k])) w) :
    Calls Try.prog 9 #[.agg #[.int .u64 uh, .int .u64 ul], .agg #[.int .u64 vh, .int .u64 vl]] w fun e w' => e = .returned (.tuple #[.agg #[.int .u64 sh, .int .u64 sl], .bool (k == 0)]) ∧ ∃ c1 c2 c3 : Array Value, w' = ((w.alloc (.cells c1 24)).alloc (.cells c2 24)).alloc (.cells c3 24) := by
  go_enter Try.func9, Try.ntmps9
  go_wp2
  refine bodyPost_ret (v := .tuple #[.agg #[.int .u64 sh, .int .u64 sl], .bool (k == 0)]) ?_ rfl ⟨rfl, ?_⟩
  · simp [results, Try.results9, go_sem]
  · exact ⟨_, _, _, rfl⟩

theorem sub_any (uh ul vh vl sl sh c k : Int) (w : World)
    (r1 : ∀ w, (callFunc 10 #[.int .u64 ul, .int .u64 vl, .int .u64 0]).run Try.prog w = .ok (.value (.tuple #[.int .u64 sl, .int .u64 c])) w)
    (r2 : ∀ w, (callFunc 10 #[.int .u64 uh, .int .u64 vh, .int .u64 c]).run Try.prog w = .ok (.value (.tuple #[.int .u64 sh, .int .u64 k])) w) :
    Calls Try.prog 8 #[.agg #[.int .u64 uh, .int .u64 ul], .agg #[.int .u64 vh, .int .u64 vl]] w fun e w' => e = .returned (.tuple #[.agg #[.int .u64 sh, .int .u64 sl], .bool (k == 0)]) ∧ ∃ c1 c2 c3 : Array Value, w' = ((w.alloc (.cells c1 24)).alloc (.cells c2 24)).alloc (.cells c3 24) := by
  go_enter Try.func8, Try.ntmps8
  go_wp2
  refine bodyPost_ret (v := .tuple #[.agg #[.int .u64 sh, .int .u64 sl], .bool (k == 0)]) ?_ rfl ⟨rfl, ?_⟩
  · simp [results, Try.results8, go_sem]
  · exact ⟨_, _, _, rfl⟩

theorem mkHid {p : Prop} (h : p) : Hid p := h

theorem add64_7 (uh ul v sl sh : Int) (b : Bool) (w : World)
    (h : ∀ w, Calls Try.prog 9 #[.agg #[.int .u64 uh, .int .u64 ul], .agg #[.int .u64 0, .int .u64 v]] w fun e w' => e = .returned (.tuple #[.agg #[.int .u64 sh, .int .u64 sl], .bool b]) ∧ ∃ c1 c2 c3 : Array Value, w' = ((w.alloc (.cells c1 24)).alloc (.cells c2 24)).alloc (.cells c3 24)) :
    Calls Try.prog 7 #[.agg #[.int .u64 uh, .int .u64 ul], .int .u64 v] w fun e w' => e = .returned (.tuple #[.agg #[.int .u64 sh, .int .u64 sl], .bool b]) ∧ ∃ c1 c2 c3 c4 c5 : Array Value, w' = ((((w.alloc (.cells c1 24)).alloc (.cells c2 24)).alloc (.cells c3 24)).alloc (.cells c4 24)).alloc (.cells c5 24) := by
  have H := mkHid h
  clear h
  go_enter Try.func7, Try.ntmps7
  go_wp2_with (go_at_call 9; refine (H.out _).mono ?_; rintro e w' ⟨rfl, c1, c2, c3, rfl⟩)
  refine bodyPost_ret (v := .tuple #[.agg #[.int .u64 sh, .int .u64 sl], .bool b]) ?_ rfl ⟨rfl, ?_⟩
  · simp [results, Try.results7, go_sem, World.cell?_alloc_past]
  · exact ⟨_, _, _, _, _, rfl⟩

theorem add64_5 (uh ul v sl sh : Int) (b : Bool) (w : World)
    (h : ∀ w, Calls Try.prog 9 #[.agg #[.int .u64 uh, .int .u64 ul], .agg #[.int .u64 0, .int .u64 v]] w fun e w' => e = .returned (.tuple #[.agg #[.int .u64 sh, .int .u64 sl], .bool b]) ∧ ∃ c1 c2 c3 : Array Value, w' = ((w.alloc (.cells c1 24)).alloc (.cells c2 24)).alloc (.cells c3 24)) :
    Calls Try.prog 5 #[.agg #[.int .u64 uh, .int .u64 ul], .int .u64 v] w fun e w' => e = .returned (.tuple #[.agg #[.int .u64 sh, .int .u64 sl], .bool b]) ∧ ∃ c1 c2 c3 c4 c5 c6 c7 : Array Value, w' = ((((((w.alloc (.cells c1 24)).alloc (.cells c2 24)).alloc (.cells c3 24)).alloc (.cells c4 24)).alloc (.cells c5 24)).alloc (.cells c6 24)).alloc (.cells c7 24) := by
  have H := mkHid h
  clear h
  go_enter Try.func5, Try.ntmps5
  go_wp2_with (go_at_call 7; refine (add64_7 uh ul v sl sh b _ H.out).mono ?_; rintro e w' ⟨rfl, c1, c2, c3, c4, c5, rfl⟩)
  refine bodyPost_ret (v := .tuple #[.agg #[.int .u64 sh, .int .u64 sl], .bool b]) ?_ rfl ⟨rfl, ?_⟩
  · simp [results, Try.results5, go_sem, World.cell?_alloc_past]
  · exact ⟨_, _, _, _, _, _, _, rfl⟩

theorem sub_6 (uh ul vh vl sl sh : Int) (b : Bool) (w : World)
    (h : ∀ w, Calls Try.prog 8 #[.agg #[.int .u64 uh, .int .u64 ul], .agg #[.int .u64 vh, .int .u64 vl]] w fun e w' => e = .returned (.tuple #[.agg #[.int .u64 sh, .int .u64 sl], .bool b]) ∧ ∃ c1 c2 c3 : Array Value, w' = ((w.alloc (.cells c1 24)).alloc (.cells c2 24)).alloc (.cells c3 24)) :
    Calls Try.prog 6 #[.agg #[.int .u64 uh, .int .u64 ul], .agg #[.int .u64 vh, .int .u64 vl]] w fun e w' => e = .returned (.tuple #[.agg #[.int .u64 sh, .int .u64 sl], .bool b]) ∧ ∃ c1 c2 c3 c4 c5 c6 : Array Value, w' = (((((w.alloc (.cells c1 24)).alloc (.cells c2 24)).alloc (.cells c3 24)).alloc (.cells c4 24)).alloc (.cells c5 24)).alloc (.cells c6 24) := by
  have H := mkHid h
  clear h
  go_enter Try.func6, Try.ntmps6
  go_wp2_with (go_at_call 8; refine (H.out _).mono ?_; rintro e w' ⟨rfl, c1, c2, c3, rfl⟩)
  refine bodyPost_ret (v := .tuple #[.agg #[.int .u64 sh, .int .u64 sl], .bool b]) ?_ rfl ⟨rfl, ?_⟩
  · simp [results, Try.results6, go_sem, World.cell?_alloc_past]
  · exact ⟨_, _, _, _, _, _, rfl⟩
end Go.Proofs.Qxb6616924a
