import Derived.Test.Qxb6616658aFmtOf
namespace Go.Proofs.Qxb6616658aFmt
open Go.RowKit Go.Extern.Stop Go.Stop Go.Extern

set_option maxRecDepth 100000 in
set_option maxHeartbeats 400000 in
theorem bytes7_any (a : Option Addr) (n c : Nat) (w : World) (hn : n ≤ 1048576) :
    Calls Tryf.prog 7 #[.slice a n c] w fun e w' => e = .returned (.bool true) ∧ w' = w := by
  go_enter Tryf.func7, Tryf.ntmps7
  go_wp2
  go_ret
  exact ⟨rfl, rfl⟩

set_option maxRecDepth 100000 in
set_option maxHeartbeats 400000 in
theorem f3_long (a : Option Addr) (n c : Nat) (w : World) (hn : 1048576 < n) (hm : n ≤ maxLen) :
    Calls Tryf.prog 3 #[.slice a n c] w fun e w' => e = .returned (.bool true) ∧ Below w.heap.size w w' := by
  unfold maxLen at hm
  go_enter Tryf.func3, Tryf.ntmps3
  go_wp2
  go_ret
  exact ⟨rfl, Below.refl _ _⟩

set_option maxRecDepth 100000 in
set_option maxHeartbeats 400000 in
theorem f3_refused (s0 s : Option Addr) (n c : Nat) (w w1 : World) (hn : n ≤ 1048576) (hb1 : Below w.heap.size w w1)
    (h8 : Calls Tryf.prog 8 #[.slice s0 n c] w fun e w' => e = .returned (.slice s n n) ∧ w1 = w')
    (h9 : Calls Tryf.prog 9 #[.slice s n n] w1 fun e w' => e = .returned pcapNo ∧ ∃ k, w' = w1.drewN k)
    (h10 : ∀ k, Refused s n (w1.drewN k)) :
    Calls Tryf.prog 3 #[.slice s0 n c] w fun e w' => e = .returned (.bool true) ∧ Below w.heap.size w w' := by
  have H8 := mkHid h8
  have H9 := mkHid h9
  have H10 := mkHid h10
  clear h8 h9 h10
  go_enter Tryf.func3, Tryf.ntmps3
  go_wp2_with (first
    | (go_at_call 7; refine (bytes7_any _ _ _ _ hn).mono ?_; rintro e w' ⟨rfl, rfl⟩)
    | (go_at_call 8; refine H8.out.mono ?_; rintro e w' ⟨rfl, rfl⟩)
    | (go_at_call 9; refine H9.out.mono ?_; rintro e w' ⟨rfl, k, rfl⟩; unfold pcapNo)
    | (go_at_call 10; refine (H10.out k).mono ?_; rintro e w2 ⟨v1, v2, rfl, rfl, a, rfl, hb⟩; have HB := mkHid hb; clear hb))
  go_ret
  exact ⟨rfl, (below_drewN hb1 k).trans (HB.out.mono hb1.size)⟩

/-- 'wpList_load_row' under a guard that says yes. -/
theorem wpList_load_row_g {P : Program} {ops : Array Oper} {rest : List Oper} {o : Oper} {a : Act} {w : World} {Q : Exit → Act → World → Prop} (ty : TypeId) (x : Operand) (ho : o.op = .load ty x)
    (g : Nat) (hx : a.eval x = .pointer (some ⟨g, 0, none⟩)) (t : TypeId) (cs : Array Value) (fr : Nat × Nat) (d : TypeDesc) (hg : w.heap[g]? = some (.cells cs t fr))
    (hu : P.underlying ty = some d) (hd : (match d with | .struct _ | .array _ _ => true | _ => false) = true) (hi : (P.info? ty).map (·.size) = some cs.size)
    (hw : Region.wanted o (yielded ops a.tmps) = true)
    (h : wpList P ops Q rest (a.put o.dst (.agg cs)) w) : wpList P ops Q (o :: rest) a w :=
  wpList_step fun _ hK => by rw [if_pos hw]; exact wp_load_row ty x ho g hx t cs fr d hg hu hd hi (hK _ _ h)

set_option maxRecDepth 100000 in
set_option maxHeartbeats 400000 in
theorem f3_made (x : Nat → Int) (ord : Value) (nn big : Bool) (lk : Int) (s0 : Option Addr) (g n c : Nat) (w w1 : World) (hn : n ≤ 1048576) (hn24 : 24 ≤ n) (hb1 : Below w.heap.size w w1) (hg : g < w1.heap.size) (hor : ord.oneCell' = true)
    (hc : ∀ j, j < n → w1.cell? ⟨g, j, none⟩ = some (.int .u8 (x j)))
    (h8 : Calls Tryf.prog 8 #[.slice s0 n c] w fun e w' => e = .returned (.slice (some ⟨g, 0, none⟩) n n) ∧ w1 = w')
    (h9 : Calls Tryf.prog 9 #[.slice (some ⟨g, 0, none⟩) n n] w1 fun e w' => e = .returned (.tuple #[.bool true, .bool big, .bool nn, .int .u32 lk]) ∧ ∃ k, w' = w1.drewN k)
    (h10 : ∀ k, Made x ord nn (some ⟨g, 0, none⟩) n (w1.drewN k))
    (h15 : ∀ w, Calls Tryf.prog 15 #[.agg (hdrA x ord nn)] w fun e w' => e = .returned (.int .u32 lk) ∧ Below w.heap.size w w') :
    Calls Tryf.prog 3 #[.slice s0 n c] w fun e w' => e = .returned (.bool true) ∧ Below w.heap.size w w' := by
  have H8 := mkHid h8
  have H9 := mkHid h9
  have H10 := mkHid h10
  have H15 := mkHid h15
  have HC := mkHid hc
  clear h8 h9 h10 h15 hc
  go_enter Tryf.func3, Tryf.ntmps3
  go_wp2_with (first
    | (go_at_call 7; refine (bytes7_any _ _ _ _ hn).mono ?_; rintro e w' ⟨rfl, rfl⟩)
    | (go_at_call 8; refine H8.out.mono ?_; rintro e w' ⟨rfl, rfl⟩)
    | (go_at_call 9; refine H9.out.mono ?_; rintro e w' ⟨rfl, k, rfl⟩)
    | (go_at_call 10; refine (H10.out k).mono ?_; rintro e w2 ⟨v1, v2, rfl, rfl, N, src, rfl, hb, hN, hh⟩; have H2 : Hid (Below w1.heap.size w1 w2) := (below_drewN (Below.refl w1.heap.size w1) k).trans (hb.mono (Nat.le_refl _)); have HH := mkHid hh; clear hb hh)
    | (go_at_call 11; refine (header_any src x ord nn N _ hor HH.out).mono ?_; rintro e w3 ⟨rfl, hb3⟩; have H3 := mkHid (H2.out.trans (hb3.mono H2.out.size)); clear hb3)
    | (guard_target = wpList _ _ _ _ _ _; refine wpList_store_top rfl 37 _ _ rfl _ (hdrA x ord nn) rfl rfl 37 _ rfl (by rw [hdrA_size]; exact Tryf.info37) (by rw [hdrA_size]; rfl) (hdrA_one x _ _ hor) ?_)
    | (guard_target = wpList _ _ _ _ _ _; refine wpList_load_row rfl 37 _ rfl w3.heap.size rfl 37 (hdrA x ord nn) (0, 0) _ (heap_alloc_new w3 _) Tryf.underlying37 rfl (by rw [hdrA_size]; exact Tryf.info37) ?_)
    | (go_at_call 13; refine (raw_any x ord nn _).mono ?_; rintro e w4 ⟨rfl, hb4⟩; have M4 := mkHid ((hb4.block w3.heap.size (by simp)).trans (heap_alloc_new w3 _)); have H4 := mkHid ((H3.out.alloc H3.out.size _).trans (hb4.mono (by have := H3.out.size; simp; omega))); clear hb4)
    | (go_at_call 12; refine (is_yes x g n _ hn24 ?_ ?_).mono ?_; (· intro j hj; exact (H4.out.cell (p := ⟨g, j, none⟩) hg).trans (HC.out j hj)); (· have := H4.out.size; omega); rintro e w5 ⟨rfl, hb5⟩; have M5 := mkHid ((hb5.block w3.heap.size (Array.getElem?_eq_some_iff.1 M4.out).1).trans M4.out); have H5 := mkHid (H4.out.trans (hb5.mono H4.out.size)); clear hb5)
    | (guard_target = wpList _ _ _ _ _ _; refine wpList_load_row_g 37 _ rfl w3.heap.size rfl 37 (hdrA x ord nn) (0, 0) _ M5.out Tryf.underlying37 rfl (by rw [hdrA_size]; exact Tryf.info37) (by kernel_rfl) ?_)
    | (go_at_call 14; refine (nanos_any x ord nn _).mono ?_; rintro e w6 ⟨rfl, hb6⟩; have M6 := mkHid ((hb6.block w3.heap.size (Array.getElem?_eq_some_iff.1 M5.out).1).trans M5.out); have H6 := mkHid (H5.out.trans (hb6.mono H5.out.size)); clear hb6)
    | (guard_target = wpList _ _ _ _ _ _; refine wpList_load_row_g 37 _ rfl w3.heap.size rfl 37 (hdrA x ord nn) (0, 0) _ M6.out Tryf.underlying37 rfl (by rw [hdrA_size]; exact Tryf.info37) (by kernel_rfl) ?_)
    | (go_at_call 15; refine (H15.out _).mono ?_; rintro e w7 ⟨rfl, hb7⟩; have H7 := mkHid (H6.out.trans (hb7.mono H6.out.size)); clear hb7))
  go_ret
  exact ⟨rfl, hb1.trans (H7.out.mono hb1.size)⟩
end Go.Proofs.Qxb6616658aFmt
