import Derived.Test.Qxb6616658aFmtKind
namespace Go.Proofs.Qxb6616658aFmt
open Go.RowKit Go.Extern.Stop Go.Stop Go.Extern

set_option maxRecDepth 100000 in
set_option maxHeartbeats 400000 in
theorem bytes16_any (a : Option Addr) (n c : Nat) (w : World) (hn : n ≤ 1048576) :
    Calls Tryf.prog 16 #[.slice a n c] w fun e w' => e = .returned (.bool true) ∧ w' = w := by
  go_enter Tryf.func16, Tryf.ntmps16
  go_wp2
  go_ret
  exact ⟨rfl, rfl⟩

set_option maxRecDepth 100000 in
set_option maxHeartbeats 400000 in
theorem f4_long (a : Option Addr) (n c : Nat) (w : World) (hn : 1048576 < n) (hm : n ≤ maxLen) :
    Calls Tryf.prog 4 #[.slice a n c] w fun e w' => e = .returned (.bool true) ∧ Below w.heap.size w w' := by
  unfold maxLen at hm
  go_enter Tryf.func4, Tryf.ntmps4
  go_wp2
  go_ret
  exact ⟨rfl, Below.refl _ _⟩

set_option maxRecDepth 100000 in
set_option maxHeartbeats 400000 in
theorem f4_refused (s0 s s2 : Option Addr) (n c : Nat) (w w1 w2 : World) (hn : n ≤ 1048576) (hb1 : Below w.heap.size w w1) (hb2 : Below w1.heap.size w1 w2)
    (h8 : Calls Tryf.prog 8 #[.slice s0 n c] w fun e w' => e = .returned (.slice s n n) ∧ w1 = w')
    (h17 : Calls Tryf.prog 17 #[.slice s n n] w1 fun e w' => e = .returned (.slice s2 n n) ∧ w2 = w')
    (h9 : Calls Tryf.prog 9 #[.slice s n n] w2 fun e w' => e = .returned pcapNo ∧ ∃ k, w' = w2.drewN k)
    (h10 : ∀ w', Below w2.heap.size w2 w' → Refused s n w' ∧ Refused s2 n w') :
    Calls Tryf.prog 4 #[.slice s0 n c] w fun e w' => e = .returned (.bool true) ∧ Below w.heap.size w w' := by
  have H8 := mkHid h8
  have H9 := mkHid h9
  have H10 := mkHid h10
  have H17 := mkHid h17
  clear h8 h9 h10 h17
  go_enter Tryf.func4, Tryf.ntmps4
  go_wp2_with (first
    | (go_at_call 16; refine (bytes16_any _ _ _ _ hn).mono ?_; rintro e w' ⟨rfl, rfl⟩)
    | (go_at_call 8; refine H8.out.mono ?_; rintro e w' ⟨rfl, rfl⟩)
    | (go_at_call 17; refine H17.out.mono ?_; rintro e w' ⟨rfl, rfl⟩)
    | (go_at_call 9; refine H9.out.mono ?_; rintro e w' ⟨rfl, k, rfl⟩; unfold pcapNo)
    | (go_at_call 10; refine (H10.out w3 HB3.out).2.mono ?_; rintro e w4 ⟨v1', v2', rfl, rfl, a', rfl, hb⟩; have HB4 := mkHid (HB3.out.trans (hb.mono HB3.out.size)); clear hb)
    | (go_at_call 10; refine (H10.out _ (below_drewN (Below.refl _ _) k)).1.mono ?_; rintro e w3 ⟨v1, v2, rfl, rfl, a, rfl, hb⟩; have HB3 : Hid (Below w2.heap.size w2 w3) := (below_drewN (Below.refl w2.heap.size w2) k).trans (hb.mono (Nat.le_refl _)); clear hb))
  go_ret
  exact ⟨rfl, (hb1.trans (hb2.mono hb1.size)).trans (HB4.out.mono (Nat.le_trans hb1.size hb2.size))⟩


set_option maxRecDepth 100000 in
set_option maxHeartbeats 1000000 in
theorem f4_made (x y : Nat → Int) (ord ord2 : Value) (nn big : Bool) (lk : Int) (s0 : Option Addr) (g g2 n c : Nat) (w w1 w2 : World) (hn : n ≤ 1048576) (hn24 : 24 ≤ n) (hb1 : Below w.heap.size w w1) (hb2 : Below w1.heap.size w1 w2) (hg : g2 < w2.heap.size) (hor : ord.oneCell' = true) (hor2 : ord2.oneCell' = true)
    (hc : ∀ j, j < n → w2.cell? ⟨g2, j, none⟩ = some (.int .u8 (y j)))
    (h8 : Calls Tryf.prog 8 #[.slice s0 n c] w fun e w' => e = .returned (.slice (some ⟨g, 0, none⟩) n n) ∧ w1 = w')
    (h17 : Calls Tryf.prog 17 #[.slice (some ⟨g, 0, none⟩) n n] w1 fun e w' => e = .returned (.slice (some ⟨g2, 0, none⟩) n n) ∧ w2 = w')
    (h9 : Calls Tryf.prog 9 #[.slice (some ⟨g, 0, none⟩) n n] w2 fun e w' => e = .returned (.tuple #[.bool true, .bool big, .bool nn, .int .u32 lk]) ∧ ∃ k, w' = w2.drewN k)
    (h10 : ∀ w', Below w2.heap.size w2 w' → Made x ord nn (some ⟨g, 0, none⟩) n w' ∧ Made y ord2 nn (some ⟨g2, 0, none⟩) n w')
    (h15 : ∀ w, Calls Tryf.prog 15 #[.agg (hdrA x ord nn)] w fun e w' => e = .returned (.int .u32 lk) ∧ Below w.heap.size w w')
    (h15' : ∀ w, Calls Tryf.prog 15 #[.agg (hdrA y ord2 nn)] w fun e w' => e = .returned (.int .u32 lk) ∧ Below w.heap.size w w') :
    Calls Tryf.prog 4 #[.slice s0 n c] w fun e w' => e = .returned (.bool true) ∧ Below w.heap.size w w' := by
  have H8 := mkHid h8
  have H9 := mkHid h9
  have H10 := mkHid h10
  have H15 := mkHid h15
  have H15' := mkHid h15'
  have H17 := mkHid h17
  have HC := mkHid hc
  clear h8 h9 h10 h15 h15' h17 hc
  go_enter Tryf.func4, Tryf.ntmps4
  go_wp2_with (first
    | (go_at_call 16; refine (bytes16_any _ _ _ _ hn).mono ?_; rintro e w' ⟨rfl, rfl⟩)
    | (go_at_call 8; refine H8.out.mono ?_; rintro e w' ⟨rfl, rfl⟩)
    | (go_at_call 17; refine H17.out.mono ?_; rintro e w' ⟨rfl, rfl⟩)
    | (go_at_call 9; refine H9.out.mono ?_; rintro e w' ⟨rfl, k, rfl⟩)
    | (go_at_call 10; refine (H10.out w3 HB3.out).2.mono ?_; rintro e w4 ⟨v1', v2', rfl, rfl, N2, src2, rfl, hb, hN2, hh⟩; have HB4 := mkHid (HB3.out.trans (hb.mono HB3.out.size)); have HH1 := mkHid ((hb.block N1 (Array.getElem?_eq_some_iff.1 HH0.out).1).trans HH0.out); have HH2 := mkHid hh; clear hb hh HB3 HH0)
    | (go_at_call 10; refine (H10.out _ (below_drewN (Below.refl _ _) k)).1.mono ?_; rintro e w3 ⟨v1, v2, rfl, rfl, N1, src, rfl, hb, hN, hh⟩; have HB3 : Hid (Below w2.heap.size w2 w3) := (below_drewN (Below.refl w2.heap.size w2) k).trans (hb.mono (Nat.le_refl _)); have HH0 := mkHid hh; clear hb hh)
    | (go_at_call 11; refine (header_any src2 y ord2 nn N2 _ hor2 HH3.out).mono ?_; rintro e w6 ⟨rfl, hb⟩; have HB6 := mkHid (HB5.out.trans (hb.mono HB5.out.size)); have M6 := mkHid ((hb.block w5.heap.size (Array.getElem?_eq_some_iff.1 M5.out).1).trans M5.out); clear hb HB5 M5 HH3)
    | (go_at_call 11; refine (header_any src x ord nn N1 _ hor HH1.out).mono ?_; rintro e w5 ⟨rfl, hb⟩; have HB5' := mkHid (HB4.out.trans (hb.mono HB4.out.size)); have HB5 := mkHid (HB5'.out.alloc HB5'.out.size (.cells (hdrA x ord nn) 37)); have HH3 := mkHid (heap_up (o := .cells (hdrA x ord nn) 37) ((hb.block N2 (Array.getElem?_eq_some_iff.1 HH2.out).1).trans HH2.out)); have M5 := mkHid (heap_alloc_new w5 (.cells (hdrA x ord nn) 37)); clear hb HB4 HH1 HH2 HB5')
    | (guard_target = wpList _ _ _ _ _ _; have _t := HB6; refine wpList_store_top rfl 37 _ _ rfl _ (hdrA y ord2 nn) rfl rfl 37 _ rfl (by rw [hdrA_size]; exact Tryf.info37) (by rw [hdrA_size]; rfl) (hdrA_one y _ _ hor2) ?_; clear _t; have HB7 := mkHid (HB6.out.alloc HB6.out.size (.cells (hdrA y ord2 nn) 37)); have M7a := mkHid (heap_up (o := .cells (hdrA y ord2 nn) 37) M6.out); clear HB6 M6)
    | (guard_target = wpList _ _ _ _ _ _; have _t := HH3; refine wpList_store_top rfl 37 _ _ rfl _ (hdrA x ord nn) rfl rfl 37 _ rfl (by rw [hdrA_size]; exact Tryf.info37) (by rw [hdrA_size]; rfl) (hdrA_one x _ _ hor) ?_; clear _t)
    | (guard_target = wpList _ _ _ _ _ _; have _t := M11b; refine wpList_load_row_g 37 _ rfl w6.heap.size rfl 37 (hdrA y ord2 nn) (0, 0) _ M11b.out Tryf.underlying37 rfl (by rw [hdrA_size]; exact Tryf.info37) (by kernel_rfl) ?_; clear _t)
    | (go_at_call 15; have _t := M11b; refine (H15'.out _).mono ?_; clear _t; rintro e w12 ⟨rfl, hb⟩; have HB12 := mkHid (HB11.out.trans (hb.mono HB11.out.size)); clear hb M11b HB11)
    | (guard_target = wpList _ _ _ _ _ _; have _t := M10a; refine wpList_load_row_g 37 _ rfl w5.heap.size rfl 37 (hdrA x ord nn) (0, 0) _ M10a.out Tryf.underlying37 rfl (by rw [hdrA_size]; exact Tryf.info37) (by kernel_rfl) ?_; clear _t)
    | (go_at_call 15; have _t := M10a; refine (H15.out _).mono ?_; clear _t; rintro e w11 ⟨rfl, hb⟩; have HB11 := mkHid (HB10.out.trans (hb.mono HB10.out.size)); have M11b := mkHid ((hb.block w6.heap.size (Array.getElem?_eq_some_iff.1 M10b.out).1).trans M10b.out); clear hb M10a M10b HB10)
    | (guard_target = wpList _ _ _ _ _ _; have _t := M9b; refine wpList_load_row_g 37 _ rfl w6.heap.size rfl 37 (hdrA y ord2 nn) (0, 0) _ M9b.out Tryf.underlying37 rfl (by rw [hdrA_size]; exact Tryf.info37) (by kernel_rfl) ?_; clear _t)
    | (go_at_call 14; have _t := M9b; refine (nanos_any y ord2 nn _).mono ?_; clear _t; rintro e w10 ⟨rfl, hb⟩; have HB10 := mkHid (HB9.out.trans (hb.mono HB9.out.size)); have M10a := mkHid ((hb.block w5.heap.size (Array.getElem?_eq_some_iff.1 M9a.out).1).trans M9a.out); have M10b := mkHid ((hb.block w6.heap.size (Array.getElem?_eq_some_iff.1 M9b.out).1).trans M9b.out); clear hb M9a M9b HB9)
    | (guard_target = wpList _ _ _ _ _ _; have _t := M8a; refine wpList_load_row_g 37 _ rfl w5.heap.size rfl 37 (hdrA x ord nn) (0, 0) _ M8a.out Tryf.underlying37 rfl (by rw [hdrA_size]; exact Tryf.info37) (by kernel_rfl) ?_; clear _t)
    | (go_at_call 14; have _t := M8a; refine (nanos_any x ord nn _).mono ?_; clear _t; rintro e w9 ⟨rfl, hb⟩; have HB9 := mkHid (HB8.out.trans (hb.mono HB8.out.size)); have M9a := mkHid ((hb.block w5.heap.size (Array.getElem?_eq_some_iff.1 M8a.out).1).trans M8a.out); have M9b := mkHid ((hb.block w6.heap.size (Array.getElem?_eq_some_iff.1 M8b.out).1).trans M8b.out); clear hb M8a M8b HB8)
    | (go_at_call 12; refine (is_yes y g2 n _ hn24 ?_ ?_).mono ?_; (· intro j hj; exact (HB7'.out.cell (p := ⟨g2, j, none⟩) hg).trans (HC.out j hj)); (· have := HB7'.out.size; omega); rintro e w8 ⟨rfl, hb⟩; have HB8 := mkHid (HB7'.out.trans (hb.mono HB7'.out.size)); have M8a := mkHid ((hb.block w5.heap.size (Array.getElem?_eq_some_iff.1 M7a'.out).1).trans M7a'.out); have M8b := mkHid ((hb.block w6.heap.size (Array.getElem?_eq_some_iff.1 M7b'.out).1).trans M7b'.out); clear hb M7a' M7b' HB7')
    | (go_at_call 13; refine (raw_any y ord2 nn _).mono ?_; rintro e w7 ⟨rfl, hb⟩; have HB7' := mkHid (HB7.out.trans (hb.mono HB7.out.size)); have M7a' := mkHid ((hb.block w5.heap.size (Array.getElem?_eq_some_iff.1 M7a.out).1).trans M7a.out); have M7b' := mkHid ((hb.block w6.heap.size (by simp)).trans (heap_alloc_new w6 _)); clear hb M7a HB7)
    | (guard_target = wpList _ _ _ _ _ _; have _t := HB7; refine wpList_load_row rfl 37 _ rfl w6.heap.size rfl 37 (hdrA y ord2 nn) (0, 0) _ (heap_alloc_new w6 _) Tryf.underlying37 rfl (by rw [hdrA_size]; exact Tryf.info37) ?_; clear _t))
  go_ret
  exact ⟨rfl, (hb1.trans (hb2.mono hb1.size)).trans (HB12.out.mono (Nat.le_trans hb1.size hb2.size))⟩
end Go.Proofs.Qxb6616658aFmt
