import Derived.Test.Qxb6616658aFmtAll3
namespace Go.Proofs.Qxb6616658aFmt
open Go.RowKit Go.Extern.Stop Go.Stop Go.Extern

/-- Four bytes, two bytes, the other way round. -/
def sw4 (o : Nat) (z : Nat → Int) : Nat → Int := fun j => if j = o then z (o + 3) else if j = o + 1 then z (o + 2) else if j = o + 2 then z (o + 1) else if j = o + 3 then z o else z j
def sw2 (o : Nat) (z : Nat → Int) : Nat → Int := fun j => if j = o then z (o + 1) else if j = o + 1 then z o else z j
def twin (x : Nat → Int) : Nat → Int := sw4 20 (sw4 16 (sw4 12 (sw4 8 (sw2 6 (sw2 4 (sw4 0 x))))))

theorem sw4_in {z : Nat → Int} (h : ∀ j, 0 ≤ z j ∧ z j ≤ 255) (o : Nat) : ∀ j, 0 ≤ sw4 o z j ∧ sw4 o z j ≤ 255 := by
  intro j; unfold sw4
  split
  · exact h _
  · split
    · exact h _
    · split
      · exact h _
      · split <;> exact h _
theorem sw2_in {z : Nat → Int} (h : ∀ j, 0 ≤ z j ∧ z j ≤ 255) (o : Nat) : ∀ j, 0 ≤ sw2 o z j ∧ sw2 o z j ≤ 255 := by
  intro j; unfold sw2
  split
  · exact h _
  · split <;> exact h _
theorem twin_in {x : Nat → Int} (h : ∀ j, 0 ≤ x j ∧ x j ≤ 255) : ∀ j, 0 ≤ twin x j ∧ twin x j ≤ 255 :=
  sw4_in (sw4_in (sw4_in (sw4_in (sw2_in (sw2_in (sw4_in h 0) 4) 6) 8) 12) 16) 20
theorem twin_le0 (x : Nat → Int) : le4 (twin x) 0 = be4 x 0 := by simp [le4, be4, twin, sw4, sw2]; omega
theorem twin_be0 (x : Nat → Int) : be4 (twin x) 0 = le4 x 0 := by simp [le4, be4, twin, sw4, sw2]; omega
theorem twin_le4 (x : Nat → Int) : le2 (twin x) 4 = be2 x 4 := by simp [le2, be2, twin, sw4, sw2]; omega
theorem twin_be4 (x : Nat → Int) : be2 (twin x) 4 = le2 x 4 := by simp [le2, be2, twin, sw4, sw2]; omega
theorem twin_le6 (x : Nat → Int) : le2 (twin x) 6 = be2 x 6 := by simp [le2, be2, twin, sw4, sw2]; omega
theorem twin_be6 (x : Nat → Int) : be2 (twin x) 6 = le2 x 6 := by simp [le2, be2, twin, sw4, sw2]; omega
theorem twin_le20 (x : Nat → Int) : le4 (twin x) 20 = be4 x 20 := by simp [le4, be4, twin, sw4, sw2]; omega
theorem twin_be20 (x : Nat → Int) : be4 (twin x) 20 = le4 x 20 := by simp [le4, be4, twin, sw4, sw2]; omega

theorem clA_set (z : Nat → Int) (n k : Nat) (v : Int) (h : k < n) : (clA z n n).setIfInBounds k (.int .u8 v) = clA (fun j => if j = k then v else z j) n n := by
  apply Array.ext_getElem?
  intro j
  rw [Array.getElem?_setIfInBounds, clA_size]
  by_cases hj : j < n
  · rw [clA_get _ _ _ _ hj, clA_get _ _ _ _ hj, if_pos hj, if_pos hj]
    by_cases e : k = j
    · subst e; simp [h]
    · rw [if_neg e, if_neg (fun e' => e e'.symm)]
  · rw [if_neg (by omega)]
    rw [Array.getElem?_eq_none (by rw [clA_size]; omega), Array.getElem?_eq_none (by rw [clA_size]; omega)]
theorem clA_at (z : Nat → Int) (n k : Nat) (h : k < n) : (clA z n n)[k]? = some (.int .u8 (z k)) := by rw [clA_get _ _ _ _ h, if_pos h]
theorem clA_ext (z y : Nat → Int) (n : Nat) (h : ∀ j, z j = y j) : clA z n n = clA y n n := by rw [show z = y from funext h]

set_option maxRecDepth 100000 in
set_option maxHeartbeats 400000 in
theorem rev2 (z : Nat → Int) (o n : Nat) (l h : Int) (w : World) (hl : l = o) (hh : h = o + 2) (hn : o + 2 ≤ n) (hn2 : n ≤ 1048576) :
    Calls Tryf.prog 31 #[.slice (some ⟨w.heap.size, 0, none⟩) n n, .int .i64 l, .int .i64 h] (w.alloc (.cells (clA z n n) 5)) fun e w' => e = .returned (.tuple #[]) ∧ w.alloc (.cells (clA (sw2 o z) n n) 5) = w' := by
  subst hl
  subst hh
  have e1 : (o : Int) + 2 - 1 = ((o + 1 : Nat) : Int) := by omega
  have g0 := clA_at z n o (by omega)
  have g1 := clA_at z n (o + 1) (by omega)
  have S : Hid (((clA z n n).setIfInBounds o (.int .u8 (z (o + 1)))).setIfInBounds (o + 1) (.int .u8 (z o)) = clA (sw2 o z) n n) := by
    show _ = _
    rw [clA_set _ _ _ _ (by omega), clA_set _ _ _ _ (by omega)]
    refine clA_ext _ _ _ fun j => ?_
    unfold sw2
    by_cases a : j = o
    · subst a; simp
    · by_cases b : j = o + 1
      · subst b; simp
      · simp [a, b]
  have i1 : (o : Int) < n := by omega
  have i2 : ((o + 1 : Nat) : Int) < n := by omega
  have b1 : o < n := by omega
  have b2 : o + 1 < n := by omega
  go_enter Tryf.func31, Tryf.ntmps31
  go_wp2
  refine wp_loop_rounds 2 ?_
  rw [rounds_succ]
  go_wp2
  rw [rounds_succ]
  go_wp2
  go_end0
  exact ⟨rfl, by rw [← S.out]⟩

/-- .. behind the first round. -/
def sw4a (o : Nat) (z : Nat → Int) : Nat → Int := fun j => if j = o then z (o + 3) else if j = o + 3 then z o else z j

set_option maxRecDepth 100000 in
set_option maxHeartbeats 400000 in
theorem rev4 (z : Nat → Int) (o n : Nat) (l h : Int) (w : World) (hl : l = o) (hh : h = o + 4) (hn : o + 4 ≤ n) (hn2 : n ≤ 1048576) :
    Calls Tryf.prog 31 #[.slice (some ⟨w.heap.size, 0, none⟩) n n, .int .i64 l, .int .i64 h] (w.alloc (.cells (clA z n n) 5)) fun e w' => e = .returned (.tuple #[]) ∧ w.alloc (.cells (clA (sw4 o z) n n) 5) = w' := by
  subst hl
  subst hh
  have g0 := clA_at z n o (by omega)
  have g3 := clA_at z n (o + 3) (by omega)
  have T : Hid (((clA z n n).setIfInBounds o (.int .u8 (z (o + 3)))).setIfInBounds (o + 3) (.int .u8 (z o)) = clA (sw4a o z) n n) := by
    show _ = _
    rw [clA_set _ _ _ _ (by omega), clA_set _ _ _ _ (by omega)]
    refine clA_ext _ _ _ fun j => ?_
    unfold sw4a
    by_cases a : j = o
    · subst a; simp
    · by_cases b : j = o + 3
      · subst b; simp
      · simp [a, b]
  have S : Hid (((clA (sw4a o z) n n).setIfInBounds (o + 1) (.int .u8 (z (o + 2)))).setIfInBounds (o + 2) (.int .u8 (z (o + 1))) = clA (sw4 o z) n n) := by
    show _ = _
    rw [clA_set _ _ _ _ (by omega), clA_set _ _ _ _ (by omega)]
    refine clA_ext _ _ _ fun j => ?_
    unfold sw4a sw4
    by_cases a : j = o
    · subst a; simp
    · by_cases b : j = o + 1
      · subst b; simp
      · by_cases c : j = o + 2
        · subst c; simp
        · simp [a, b, c]
  have i1 : (o : Int) < n := by omega
  have b1 : o < n := by omega
  have b2 : o + 1 < n := by omega
  have b3 : o + 2 < n := by omega
  have b4 : o + 3 < n := by omega
  have q1 : sw4a o z (o + 1) = z (o + 1) := by simp [sw4a]
  have q2 : sw4a o z (o + 2) = z (o + 2) := by simp [sw4a]
  have g1 : (clA (sw4a o z) n n)[o + 1]? = some (.int .u8 (z (o + 1))) := by rw [clA_at _ _ _ (by omega), q1]
  have g2 : (clA (sw4a o z) n n)[o + 2]? = some (.int .u8 (z (o + 2))) := by rw [clA_at _ _ _ (by omega), q2]
  clear q1 q2
  go_enter Tryf.func31, Tryf.ntmps31
  go_wp2
  refine wp_loop_rounds 3 ?_
  rw [rounds_succ]
  go_wp2
  rw [T.out]
  clear g0 g3 T
  rw [rounds_succ]
  go_wp2
  rw [rounds_succ]
  go_wp2
  go_end0
  exact ⟨rfl, by rw [← S.out]⟩

set_option maxRecDepth 100000 in
set_option maxHeartbeats 400000 in
theorem twin17 (x : Nat → Int) (g n : Nat) (w : World) (hn24 : 24 ≤ n) (hn : n ≤ 1048576) (hg : g < w.heap.size) (hc : ∀ j, j < n → w.cell? ⟨g, j, none⟩ = some (.int .u8 (x j))) :
    Calls Tryf.prog 17 #[.slice (some ⟨g, 0, none⟩) n n] w fun e w' => e = .returned (.slice (some ⟨w.heap.size, 0, none⟩) n n) ∧ w.alloc (.cells (clA (twin x) n n) 5) = w' := by
  have H8 := mkHid (clone_some x g 0 n n w hn hg (fun j hj => by rw [Nat.zero_add]; exact hc j hj))
  clear hc
  go_enter Tryf.func17, Tryf.ntmps17
  go_wp2_with (first
    | (go_at_call 8; refine H8.out.mono ?_; rintro e w' ⟨rfl, rfl⟩)
    | (go_at_call 31; refine (rev4 x 0 n _ _ w (by omega) (by omega) (by omega) hn).mono ?_; rintro e w' ⟨rfl, rfl⟩)
    | (go_at_call 31; refine (rev2 (sw4 0 x) 4 n _ _ w (by omega) (by omega) (by omega) hn).mono ?_; rintro e w' ⟨rfl, rfl⟩)
    | (go_at_call 31; refine (rev2 (sw2 4 (sw4 0 x)) 6 n _ _ w (by omega) (by omega) (by omega) hn).mono ?_; rintro e w' ⟨rfl, rfl⟩)
    | (go_at_call 31; refine (rev4 (sw2 6 (sw2 4 (sw4 0 x))) 8 n _ _ w (by omega) (by omega) (by omega) hn).mono ?_; rintro e w' ⟨rfl, rfl⟩)
    | (go_at_call 31; refine (rev4 (sw4 8 (sw2 6 (sw2 4 (sw4 0 x)))) 12 n _ _ w (by omega) (by omega) (by omega) hn).mono ?_; rintro e w' ⟨rfl, rfl⟩)
    | (go_at_call 31; refine (rev4 (sw4 12 (sw4 8 (sw2 6 (sw2 4 (sw4 0 x))))) 16 n _ _ w (by omega) (by omega) (by omega) hn).mono ?_; rintro e w' ⟨rfl, rfl⟩)
    | (go_at_call 31; refine (rev4 (sw4 16 (sw4 12 (sw4 8 (sw2 6 (sw2 4 (sw4 0 x)))))) 20 n _ _ w (by omega) (by omega) (by omega) hn).mono ?_; rintro e w' ⟨rfl, rfl⟩))
  go_ret
  exact ⟨rfl, rfl⟩

set_option maxRecDepth 100000 in
set_option maxHeartbeats 400000 in
theorem twin17_short (s s2 : Option Addr) (n : Nat) (w w2 : World) (hn : n < 24) (h8 : Calls Tryf.prog 8 #[.slice s n n] w fun e w' => e = .returned (.slice s2 n n) ∧ w2 = w') :
    Calls Tryf.prog 17 #[.slice s n n] w fun e w' => e = .returned (.slice s2 n n) ∧ w2 = w' := by
  have H8 := mkHid h8
  clear h8
  go_enter Tryf.func17, Tryf.ntmps17
  go_wp2_with (go_at_call 8; refine H8.out.mono ?_; rintro e w' ⟨rfl, rfl⟩)
  go_ret
  exact ⟨rfl, rfl⟩
end Go.Proofs.Qxb6616658aFmt
