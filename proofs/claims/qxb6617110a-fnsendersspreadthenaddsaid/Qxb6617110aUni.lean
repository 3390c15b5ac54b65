import Derived.Test.Qxb6617110aAdd
namespace Go.Proofs.Qxb6617110a
open Go.RowKit

/-- A slice that came in, or an own one: its elements are x. -/
def RowIn (kd : IntKind) (w : World) (v : Value) (len : Nat) (x : Nat → Int) : Prop :=
  (v = .slice none 0 0 ∧ len = 0) ∨ (∃ a c, v = .slice (some a) 0 c ∧ len = 0) ∨
  ∃ g o c, v = .slice (some ⟨g, o, none⟩) len c ∧ g < w.heap.size ∧ ∀ j, j < len → w.cell? ⟨g, o + j, none⟩ = some (.int kd (x j))
/-- A clone: its elements are x. -/
def RowOut (kd : IntKind) (w : World) (v : Value) (len : Nat) (x : Nat → Int) : Prop :=
  ∃ s g, v = .slice s len len ∧ (0 < len → s = some ⟨g, 0, none⟩ ∧ g < w.heap.size) ∧ ∀ j, j < len → w.cell? ⟨g, j, none⟩ = some (.int kd (x j))
theorem RowOut.toIn {kd : IntKind} {w : World} {v : Value} {len : Nat} {x : Nat → Int} (h : RowOut kd w v len x) : RowIn kd w v len x := by
  obtain ⟨s, g, rfl, h1, h2⟩ := h
  by_cases e : 0 < len
  · obtain ⟨rfl, h3⟩ := h1 e
    exact .inr (.inr ⟨g, 0, len, rfl, h3, fun j hj => by rw [Nat.zero_add]; exact h2 j hj⟩)
  · obtain rfl : len = 0 := by omega
    cases s with
    | none => exact .inl ⟨rfl, rfl⟩
    | some a => exact .inr (.inl ⟨a, 0, rfl, rfl⟩)
theorem RowOut.below {kd : IntKind} {w w' : World} {v : Value} {len : Nat} {x : Nat → Int} {T : Nat} (h : RowOut kd w v len x) (hb : Below T w w') (hT : w.heap.size ≤ T) : RowOut kd w' v len x := by
  obtain ⟨s, g, rfl, h1, h2⟩ := h
  refine ⟨s, g, rfl, fun e => ⟨(h1 e).1, Nat.lt_of_lt_of_le (h1 e).2 hb.size⟩, fun j hj => ?_⟩
  exact (hb.cell (p := ⟨g, j, none⟩) (Nat.lt_of_lt_of_le (h1 (by omega)).2 hT)).trans (h2 j hj)
theorem RowIn.below {kd : IntKind} {w w' : World} {v : Value} {len : Nat} {x : Nat → Int} {T : Nat} (h : RowIn kd w v len x) (hb : Below T w w') (hT : w.heap.size ≤ T) : RowIn kd w' v len x := by
  rcases h with h | h | ⟨g, o, c, rfl, h1, h2⟩
  · exact .inl h
  · exact .inr (.inl h)
  · exact .inr (.inr ⟨g, o, c, rfl, Nat.lt_of_lt_of_le h1 hb.size, fun j hj => (hb.cell (p := ⟨g, o + j, none⟩) (Nat.lt_of_lt_of_le h1 hT)).trans (h2 j hj)⟩)
theorem RowIn.congr {kd : IntKind} {w : World} {v : Value} {len : Nat} {x y : Nat → Int} (h : RowIn kd w v len x) (e : ∀ j, j < len → x j = y j) : RowIn kd w v len y := by
  rcases h with h | h | ⟨g, o, c, rfl, h1, h2⟩
  · exact .inl h
  · exact .inr (.inl h)
  · exact .inr (.inr ⟨g, o, c, rfl, h1, fun j hj => by rw [h2 j hj, e j hj]⟩)

theorem clone8 (x : Nat → Int) {v : Value} {len : Nat} {w : World} (hl : len ≤ 1048576) (h : RowIn .u32 w v len x) :
    Calls Try.prog 8 #[v] w fun e w' => ∃ v', e = .returned v' ∧ Below w.heap.size w w' ∧ RowOut .u32 w' v' len x := by
  rcases h with ⟨rfl, rfl⟩ | ⟨a, c, rfl, rfl⟩ | ⟨g, o, c, rfl, h1, h2⟩
  · refine (clone8_nil w).mono ?_
    rintro e w' ⟨rfl, rfl⟩
    exact ⟨_, rfl, Below.refl _ _, none, 0, rfl, fun h => absurd h (Nat.lt_irrefl _), fun j h => absurd h (Nat.not_lt_zero _)⟩
  · refine (clone8_zero x a c w).mono ?_
    rintro e w' ⟨rfl, rfl⟩
    exact ⟨_, rfl, (Below.refl _ _).alloc (Nat.le_refl _) _, _, 0, rfl, fun h => absurd h (Nat.lt_irrefl _), fun j h => absurd h (Nat.not_lt_zero _)⟩
  · refine (clone8_some x g o len c w hl h1 h2).mono ?_
    rintro e w' ⟨rfl, rfl⟩
    exact ⟨_, rfl, (Below.refl _ _).alloc (Nat.le_refl _) _, _, w.heap.size, rfl, fun h => ⟨rfl, by simp⟩, cl_cells _ _ _ _ _⟩
theorem clone9 (x : Nat → Int) {v : Value} {len : Nat} {w : World} (hl : len ≤ 1048576) (h : RowIn .u64 w v len x) :
    Calls Try.prog 9 #[v] w fun e w' => ∃ v', e = .returned v' ∧ Below w.heap.size w w' ∧ RowOut .u64 w' v' len x := by
  rcases h with ⟨rfl, rfl⟩ | ⟨a, c, rfl, rfl⟩ | ⟨g, o, c, rfl, h1, h2⟩
  · refine (clone9_nil w).mono ?_
    rintro e w' ⟨rfl, rfl⟩
    exact ⟨_, rfl, Below.refl _ _, none, 0, rfl, fun h => absurd h (Nat.lt_irrefl _), fun j h => absurd h (Nat.not_lt_zero _)⟩
  · refine (clone9_zero x a c w).mono ?_
    rintro e w' ⟨rfl, rfl⟩
    exact ⟨_, rfl, (Below.refl _ _).alloc (Nat.le_refl _) _, _, 0, rfl, fun h => absurd h (Nat.lt_irrefl _), fun j h => absurd h (Nat.not_lt_zero _)⟩
  · refine (clone9_some x g o len c w hl h1 h2).mono ?_
    rintro e w' ⟨rfl, rfl⟩
    exact ⟨_, rfl, (Below.refl _ _).alloc (Nat.le_refl _) _, _, w.heap.size, rfl, fun h => ⟨rfl, by simp⟩, cl_cells _ _ _ _ _⟩

set_option maxRecDepth 100000 in
set_option maxHeartbeats 400000 in
theorem ints12_zero (x : Nat → Int) (s : Option Addr) (c : Nat) (w : World) :
    Calls Try.prog 12 #[.slice s 0 c] w fun e w' => e = .returned (.slice (some ⟨w.heap.size, 0, none⟩) 0 0) ∧ w.alloc (.cells (clA .i64 x 0 0) 3) = w' := by
  have hmk : ∀ w, (Instr.makeSlice 31 (.int .i64 0) (.int .i64 0)).run Try.prog w = .ok (.slice (some ⟨w.heap.size, 0, none⟩) 0 0) (w.alloc (.cells (madeCells #[.int .i64 0] 0) 3)) := run_make_row' (P := Try.prog) 31 3 (.int .i64 0) 8 Try.underlying31 Try.info3 rfl .i64 .i64 0 (by omega) (by omega)
  go_enter Try.func12, Try.ntmps12
  go_wp2
  refine wp_loop_rounds 1 ?_
  rw [rounds_succ]
  go_wp2
  go_ret
  exact ⟨rfl, by rw [← clA_zero .i64 x]⟩
/-- An own row of ints. -/
structure IntRow (w : World) (N len : Nat) (x : Nat → Int) : Prop where
  lt : N < w.heap.size
  cell : ∀ j, j < len → w.cell? ⟨N, j, none⟩ = some (.int .i64 (x j))
theorem ints (x : Nat → Int) (hx : ∀ j, 0 ≤ x j ∧ x j ≤ 4294967295) {v : Value} {len : Nat} {w : World} (hl : len ≤ 1048576) (h : RowOut .u32 w v len x) :
    Calls Try.prog 12 #[v] w fun e w' => ∃ N c, e = .returned (.slice (some ⟨N, 0, none⟩) len c) ∧ Below w.heap.size w w' ∧ w.heap.size ≤ N ∧ IntRow w' N len x := by
  obtain ⟨s, g, rfl, h1, h2⟩ := h
  by_cases e : 0 < len
  · obtain ⟨rfl, h3⟩ := h1 e
    refine (ints12 x hx g len len w hl h3 h2).mono ?_
    rintro e w' ⟨rfl, rfl⟩
    exact ⟨_, _, rfl, (Below.refl _ _).alloc (Nat.le_refl _) _, Nat.le_refl _, by simp, cl_cells _ _ _ _ _⟩
  · obtain rfl : len = 0 := by omega
    refine (ints12_zero x s 0 w).mono ?_
    rintro e w' ⟨rfl, rfl⟩
    exact ⟨_, _, rfl, (Below.refl _ _).alloc (Nat.le_refl _) _, Nat.le_refl _, by simp, fun j h => absurd h (Nat.not_lt_zero _)⟩

theorem well (x : Nat → Int) (n : Int) (hn1 : 1 ≤ n) (hn2 : n ≤ 4194304) (hx : ∀ j, 0 ≤ x j ∧ x j ≤ 4294967295) {v : Value} {len : Nat} {w : World} (hl : len ≤ 1048576) (h : RowIn .u32 w v len x) :
    Calls Try.prog 7 #[v, .int .i64 n] w fun e w' => (e = .returned (.bool false) ∧ ∃ m, w.drewN m = w') ∨ (e = .returned (.bool true) ∧ Hid (FewWF x n len) ∧ ∃ m, w.drewN m = w') := by
  rcases h with ⟨rfl, rfl⟩ | ⟨a, c, rfl, rfl⟩ | ⟨g, o, c, rfl, h1, h2⟩
  · refine (wf7_zero n none 0 w).mono ?_
    rintro e w' ⟨rfl, rfl⟩
    exact .inr ⟨rfl, ⟨fun j h => absurd h (Nat.not_lt_zero _), fun j h => absurd h (Nat.not_lt_zero _)⟩, 0, rfl⟩
  · refine (wf7_zero n (some a) c w).mono ?_
    rintro e w' ⟨rfl, rfl⟩
    exact .inr ⟨rfl, ⟨fun j h => absurd h (Nat.not_lt_zero _), fun j h => absurd h (Nat.not_lt_zero _)⟩, 0, rfl⟩
  · refine (wf7 x n hn1 hn2 hx g o len c w hl h2).mono ?_
    rintro e w' ⟨b, rfl, hb, m, rfl⟩
    cases b with
    | false => exact .inl ⟨rfl, m, rfl⟩
    | true => exact .inr ⟨rfl, hb rfl, m, rfl⟩

theorem has (x : Nat → Int) (p : Int) (hp1 : 1 ≤ p) (hp2 : p ≤ 4194304) (hx : ∀ j, 0 ≤ x j ∧ x j ≤ 4294967295) {v : Value} {len : Nat} {w : World} (hl : len ≤ 1048576) (h : RowOut .u32 w v len x) :
    Calls Try.prog 16 #[v, .int .i64 p] w fun e w' => (e = .returned (.bool true) ∧ Hid (∃ i, i < len ∧ x i = p) ∧ ∃ m, w.drewN m = w') ∨ (e = .returned (.bool false) ∧ Hid (¬ ∃ i, i < len ∧ x i = p) ∧ ∃ m, w.drewN m = w') := by
  obtain ⟨s, g, rfl, h1, h2⟩ := h
  refine (has16 x p hp1 hp2 hx g len len s w hl (fun e => (h1 e).1) h2).mono ?_
  rintro e w' ⟨b, rfl, hb, m, rfl⟩
  cases b with
  | true => exact .inl ⟨rfl, hb.1 rfl, m, rfl⟩
  | false => exact .inr ⟨rfl, fun h => Bool.noConfusion (hb.2 h), m, rfl⟩

set_option maxRecDepth 100000 in
set_option maxHeartbeats 400000 in
theorem bytes6 (v0 v3 v4 : Value) (a1 a2 : Option Addr) (l1 c1 l2 c2 : Nat) (w : World) (h1 : l1 ≤ maxLen) (h2 : l2 ≤ maxLen) :
    Calls Try.prog 6 #[v0, .slice a1 l1 c1, .slice a2 l2 c2, v3, v4] w fun e w' => (e = .returned (.bool true) ∧ w = w') ∨ (e = .returned (.bool false) ∧ w = w') := by
  unfold maxLen at h1 h2
  go_enter Try.func6, Try.ntmps6
  go_wp2
  all_goals
    go_ret
    first | exact .inl ⟨rfl, rfl⟩ | exact .inr ⟨rfl, rfl⟩

set_option maxRecDepth 100000 in
set_option maxHeartbeats 400000 in
theorem new10 (n ln : Int) (v1 v2 : Value) (w : World) (s1 s2 : Option Addr) (l1 c1 l2 c2 : Nat) (e1 : v1 = .slice s1 l1 c1) (e2 : v2 = .slice s2 l2 c2) :
    Calls Try.prog 10 #[.int .i64 n, v1, v2, .int .i64 ln] w fun e w' => e = .returned (.pointer (some ⟨w.heap.size, 0, none⟩)) ∧ w.alloc (.cells #[.int .i64 n, v1, v2, .int .i64 ln] 49) = w' := by
  subst e1
  subst e2
  go_enter Try.func10, Try.ntmps10
  go_wp2
  go_ret
  exact ⟨rfl, rfl⟩

set_option maxRecDepth 100000 in
set_option maxHeartbeats 400000 in
theorem spread11 (q : Nat → Nat) (n ln : Int) (nw S len : Nat) (v bv : Value) (w w0 : World) (hn1 : 1 ≤ n) (hn2 : n ≤ 4194304) (hq : ∀ j, j < len → (q j : Int) + 1 ≤ n) (hlen : len ≤ 1048576) (hnw : (n + 63) / 64 = (nw : Int))
    (hr : RowOut .u32 w0 v len (fun j => (q j : Int) + 1)) (hw : w0.heap.size = S) (e : w = w0.alloc (.cells #[.int .i64 n, v, bv, .int .i64 ln] 49)) :
    Calls Try.prog 11 #[.pointer (some ⟨S, 0, none⟩)] w fun e w' => e = .returned (.tuple #[]) ∧ ∃ N B, Below S w w' ∧ S < N ∧ SetAt w' S N n ln nw B (fun r => ∃ i, i < len ∧ q i = r) := by
  subst hw
  subst e
  obtain ⟨s, g, rfl, h1, h2⟩ := hr
  have hc : Hid (Calls Try.prog 26 #[.pointer (some ⟨w0.heap.size, 0, none⟩)] (w0.alloc (.cells #[.int .i64 n, .slice s len len, bv, .int .i64 ln] 49)) fun e w' => e = .returned (.tuple #[]) ∧ ∃ N B, Below w0.heap.size (w0.alloc (.cells #[.int .i64 n, .slice s len len, bv, .int .i64 ln] 49)) w' ∧ w0.heap.size < N ∧ Holds B (fun r => ∃ i, i < len ∧ q i = r) ∧
      w'.heap[w0.heap.size]? = some (.cells #[.int .i64 n, .slice none 0 0, .slice (some ⟨N, 0, none⟩) nw nw, .int .i64 ln] 49 (0, 0)) ∧ w'.heap[N]? = some (.cells (bitsA B nw) 47 (0, 0))) :=
    spread_any q n ln nw w0.heap.size g len s bv _ hn1 hn2 hq hlen hnw (fun e => (h1 e).1) (fun e => (h1 e).2) (heap_alloc_new w0 _)
      (fun j hj => by
        have hb : Below w0.heap.size w0 (w0.alloc (.cells #[.int .i64 n, .slice s len len, bv, .int .i64 ln] 49)) := (Below.refl _ _).alloc (Nat.le_refl _) _
        exact (hb.cell (p := ⟨g, j, none⟩) (h1 (by omega)).2).trans (h2 j hj))
  clear h1 h2 hq hnw
  generalize w0.alloc (.cells #[.int .i64 n, .slice s len len, bv, .int .i64 ln] 49) = w at hc ⊢
  go_enter Try.func11, Try.ntmps11
  go_wp2_with (go_at_call 26; refine hc.out.mono ?_; rintro e w' ⟨rfl, N, B, hb, hSN, hB, h1, h2⟩; have HR := mkHid (And.intro hb (And.intro hSN (SetAt.mk h1 h2 hB hSN))); clear hb hSN hB h1 h2)
  go_end0
  exact ⟨rfl, N, B, HR.out⟩

theorem asc_le {y : Nat → Int} {m : Nat} {b : Int} (hb : 0 ≤ b) (hy : ∀ i j, i < j → j < m → y i < y j) (hy1 : ∀ i, i < m → 1 ≤ y i) (hy2 : ∀ i, i < m → y i ≤ b) : (m : Int) ≤ b := by
  have h : ∀ i, i < m → (i : Int) + 1 ≤ y i := by
    intro i
    induction i with
    | zero => intro h; have := hy1 0 h; omega
    | succ k ih =>
      intro h
      have h1 := ih (by omega)
      have h2 := hy k (k + 1) (by omega) h
      omega
  by_cases e : m = 0
  · omega
  · have h1 := h (m - 1) (by omega)
    have h2 := hy2 (m - 1) (by omega)
    omega
end Go.Proofs.Qxb6617110a
