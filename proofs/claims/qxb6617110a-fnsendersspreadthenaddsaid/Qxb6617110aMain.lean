import Derived.Test.Qxb6617110aUni
namespace Go.Proofs.Qxb6617110a
open Go.RowKit

/-- The first reading of the bits. -/
theorem exact_first (q : Nat → Nat) {n ln : Int} {nw S N len K c : Nat} {B : Nat → Nat} {w : World} (hn2 : n ≤ 4194304) (hq : ∀ j, j < len → (q j : Int) + 1 ≤ n) (hup : ∀ i j, i < j → j < len → q i < q j) (hlen : len ≤ 1048576) (hnw : (n + 63) / 64 = (nw : Int)) (hn1 : 1 ≤ n)
    (h : SetAt w S N n ln nw B (fun r => ∃ i, i < len ∧ q i = r)) (hi : IntRow w K len (fun j => (q j : Int) + 1)) :
    Calls Try.prog 15 #[.slice (some ⟨N, 0, none⟩) nw nw, .slice (some ⟨K, 0, none⟩) len c] w fun e w' => e = .returned (.bool true) ∧ ∃ d, w' = w.drewN d := by
  refine exact15 B (fun j => (q j : Int) + 1) N nw nw K len c w (by omega) (by omega) (h.holds.congr fun r => ?_) (fun i j h1 h2 => ?_) (fun i _ => by omega) (fun i hi => ?_) h.word hi.cell
  · constructor
    · rintro ⟨i, h1, h2⟩; exact ⟨i, h1, by omega⟩
    · rintro ⟨i, h1, h2⟩; exact ⟨i, h1, by omega⟩
  · have := hup i j h1 h2; omega
  · have := hq i hi; omega
/-- The second reading. -/
theorem exact_second (q : Nat → Nat) (qp : Nat) {n ln : Int} {nw S N len m : Nat} {y : Nat → Int} {v : Value} {B : Nat → Nat} {w : World} (hn2 : n ≤ 4194304) (hq : ∀ j, j < len → (q j : Int) + 1 ≤ n) (hp : (qp : Int) + 1 ≤ n) (hnw : (n + 63) / 64 = (nw : Int)) (hn1 : 1 ≤ n)
    (h : SetAt w S N n ln nw B (fun r => (∃ i, i < len ∧ q i = r) ∨ r = qp)) (hi : RowOf w v (fun r => (∃ j, j < len ∧ (q j : Int) + 1 = r) ∨ r = (qp : Int) + 1) m y) :
    Calls Try.prog 15 #[.slice (some ⟨N, 0, none⟩) nw nw, v] w fun e w' => e = .returned (.bool true) ∧ ∃ d, w' = w.drewN d := by
  obtain ⟨K, c, rfl, hK, hcell⟩ := hi.val
  have hy : ∀ i, i < m → 1 ≤ y i ∧ y i ≤ n := by
    intro i him
    rcases (hi.mem (y i)).2 ⟨i, him, rfl⟩ with ⟨j, h1, h2⟩ | h2
    · have := hq j h1; omega
    · omega
  have hm := asc_le (b := n) (by omega) hi.asc (fun i h => (hy i h).1) (fun i h => (hy i h).2)
  refine exact15 B y N nw nw K m c w (by omega) (by omega) (h.holds.congr fun r => ?_) hi.asc (fun i h => (hy i h).1) (fun i hi => ?_) h.word hcell
  · rw [← hi.mem ((r : Int) + 1)]
    constructor
    · rintro (⟨i, h1, h2⟩ | h2)
      · exact .inl ⟨i, h1, by omega⟩
      · exact .inr (by omega)
    · rintro (⟨i, h1, h2⟩ | h2)
      · exact .inl ⟨i, h1, by omega⟩
      · exact .inr (by omega)
  · have := hy i hi; omega

theorem IntRow.kept {w w' : World} {K len : Nat} {x : Nat → Int} (h : IntRow w K len x) (hb : w'.heap[K]? = w.heap[K]?) (hs : w.heap.size ≤ w'.heap.size) : IntRow w' K len x :=
  ⟨Nat.lt_of_lt_of_le h.lt hs, fun j hj => (World.cell?_of_block (w := w) hb).trans (h.cell j hj)⟩

theorem RowOf.below {w w' : World} {v : Value} {mem : Int → Prop} {m : Nat} {y : Nat → Int} {T : Nat} (h : RowOf w v mem m y) (hb : Below T w w') (hT : w.heap.size ≤ T) : RowOf w' v mem m y := by
  obtain ⟨⟨N, c, h1, h2, h3⟩, h4, h5⟩ := h
  exact ⟨⟨N, c, h1, Nat.lt_of_lt_of_le h2 hb.size, fun j hj => (hb.cell (p := ⟨N, j, none⟩) (Nat.lt_of_lt_of_le h2 hT)).trans (h3 j hj)⟩, h4, h5⟩
theorem IntRow.below {w w' : World} {K len T : Nat} {x : Nat → Int} (h : IntRow w K len x) (hb : Below T w w') (hT : w.heap.size ≤ T) : IntRow w' K len x := h.kept (hb.block K (Nat.lt_of_lt_of_le h.lt hT)) hb.size
theorem SetAt.ltN {w : World} {S N : Nat} {n ln : Int} {nw : Nat} {B : Nat → Nat} {mem : Nat → Prop} (h : SetAt w S N n ln nw B mem) : N < w.heap.size := (Array.getElem?_eq_some_iff.1 h.row).1
theorem drew_below {w w' : World} {d : Nat} (h : w.drewN d = w') : Below w.heap.size w w' := h ▸ below_drewN (Below.refl _ _) d
/-- What a well-formed list says of its members. -/
structure QF (q : Nat → Nat) (n : Int) (len : Nat) : Prop where
  le : ∀ j, j < len → (q j : Int) + 1 ≤ n
  up : ∀ i j, i < j → j < len → q i < q j
theorem QF.of {x : Nat → Int} {q : Nat → Nat} {n : Int} {len : Nat} (h : FewWF x n len) (hx : ∀ j, j < len → x j = (q j : Int) + 1) : QF q n len := by
  refine ⟨fun j hj => ?_, fun i j => ?_⟩
  · have := h.within j hj; have := hx j hj; omega
  · induction j with
    | zero => intro h; exact absurd h (Nat.not_lt_zero _)
    | succ k ih =>
      intro h1 h2
      have h3 := h.up k h2
      have h4 := hx k (by omega)
      have h5 := hx (k + 1) h2
      by_cases e : i = k
      · subst e; omega
      · have := ih (by omega) (by omega); omega

set_option maxRecDepth 100000 in
set_option maxHeartbeats 400000 in
theorem words14 (n : Int) (nw : Nat) (w : World) (hn1 : 1 ≤ n) (hn2 : n ≤ 4194304) (hnw : (n + 63) / 64 = (nw : Int)) : Calls Try.prog 14 #[.int .i64 n] w fun e w' => e = .returned (.int .i64 nw) ∧ w = w' := by
  go_enter Try.func14, Try.ntmps14
  go_wp2
  go_ret
  exact ⟨by rw [← hnw]; rfl, rfl⟩

theorem mem_of {q : Nat → Nat} {len qp : Nat} (h : ∃ i, i < len ∧ (fun j => (q j : Int) + 1) i = (qp : Int) + 1) : ∃ i, i < len ∧ q i = qp := by
  obtain ⟨i, h1, h2⟩ := h
  have h3 : (q i : Int) + 1 = (qp : Int) + 1 := h2
  exact ⟨i, h1, by omega⟩
theorem mem_to {q : Nat → Nat} {len qp : Nat} (h : ∃ i, i < len ∧ q i = qp) : ∃ i, i < len ∧ (fun j => (q j : Int) + 1) i = (qp : Int) + 1 := by
  obtain ⟨i, h1, h2⟩ := h
  exact ⟨i, h1, by show (q i : Int) + 1 = (qp : Int) + 1; omega⟩
theorem mem_same {q : Nat → Nat} {len qp : Nat} (h : ∃ i, i < len ∧ (fun j => (q j : Int) + 1) i = (qp : Int) + 1) : ∀ r, (∃ i, i < len ∧ q i = r) ↔ ((∃ i, i < len ∧ q i = r) ∨ r = qp) := by
  intro r
  constructor
  · exact Or.inl
  · rintro (h1 | rfl)
    · exact h1
    · exact mem_of h

set_option maxRecDepth 100000 in
set_option maxHeartbeats 4000000 in
theorem main (q : Nat → Nat) (qp : Nat) (x2 : Nat → Int) (n ln : Int) (v1 v2 : Value) (a1 a2 : Option Addr) (len1 cap1 len2 cap2 nw : Nat) (w : World) (e1 : v1 = .slice a1 len1 cap1) (e2 : v2 = .slice a2 len2 cap2)
    (hl1 : len1 ≤ 131072) (hl2 : len2 ≤ 65536) (hn1 : 1 ≤ n) (hn2 : n ≤ 4194304) (hp : (qp : Int) + 1 ≤ n) (hnw : (n + 63) / 64 = (nw : Int)) (hq32 : ∀ j, (q j : Int) + 1 ≤ 4294967295)
    (x1 : Nat → Int) (hx1 : ∀ j, 0 ≤ x1 j ∧ x1 j ≤ 4294967295) (hq : FewWF x1 n len1 → ∀ j, j < len1 → x1 j = (q j : Int) + 1) (r1 : RowIn .u32 w v1 len1 x1) (r2 : RowIn .u64 w v2 len2 x2) :
    Calls Try.prog 3 #[.int .i64 n, v1, v2, .int .i64 ln, .int .i64 ((qp : Int) + 1)] w fun e w' => e = .returned (.bool true) ∧ Below w.heap.size w w' := by
  have HX1 := mkHid hx1
  have HX32 : Hid (∀ j, 0 ≤ (fun j => (q j : Int) + 1) j ∧ (fun j => (q j : Int) + 1) j ≤ 4294967295) := fun j => ⟨by show 0 ≤ (q j : Int) + 1; omega, hq32 j⟩
  have HQ0 := mkHid hq
  have R1 := mkHid r1
  have R2 := mkHid r2
  have HNW := mkHid hnw
  clear hx1 hq r1 r2 hnw hq32
  subst e1
  subst e2
  have hs := Lib.run_eql_slice_nil (P := Try.prog)
  go_enter Try.func3, Try.ntmps3
  go_wp2_with (first
    | (go_at_call 6; refine (bytes6 _ _ _ _ _ _ _ _ _ _ (by unfold maxLen; omega) (by unfold maxLen; omega)).mono ?_; rintro e w' (⟨rfl, rfl⟩ | ⟨rfl, rfl⟩))
    | (go_at_call 7; refine (well x1 n hn1 hn2 HX1.out (by omega) R1.out).mono ?_; rintro e w0 (⟨rfl, d, hd⟩ | ⟨rfl, HWF, d, hd⟩)
       all_goals
         have HB0 := mkHid (drew_below hd)
         clear hd)
    | (go_at_call 8; refine (clone8 (fun j => (q j : Int) + 1) (by omega) HF2.out.toIn).mono ?_; rintro e w3 ⟨u3, rfl, hb, hr⟩
       have HB3 := mkHid (HB2.out.trans (hb.mono HB2.out.size))
       have HF3 := mkHid (HF2.out.below hb (Nat.le_refl _))
       have HG3 := mkHid (HG2.out.below hb (Nat.le_refl _))
       have HH3 := mkHid hr
       clear hb hr HB2 HF2 HG2)
    | (go_at_call 8
       have HQ := mkHid (QF.of HWF.out (HQ0.out HWF.out))
       have HR0 := mkHid ((R1.out.congr (HQ0.out HWF.out)).below HB0.out (Nat.le_refl _))
       clear HWF HQ0 R1
       refine (clone8 (fun j => (q j : Int) + 1) (by omega) HR0.out).mono ?_; rintro e w1 ⟨u1, rfl, hb, hr⟩
       have HB1 := mkHid (HB0.out.trans (hb.mono HB0.out.size))
       have HF1 := mkHid hr
       clear hb hr HB0 HR0)
    | (go_at_call 9; refine (clone9 x2 (by omega) HG3.out.toIn).mono ?_; rintro e w4 ⟨u4, rfl, hb, hr⟩
       have HB4 := mkHid (HB3.out.trans (hb.mono HB3.out.size))
       have HF4 := mkHid (HF3.out.below hb (Nat.le_refl _))
       have HH4 := mkHid (HH3.out.below hb (Nat.le_refl _))
       have HU4 := mkHid hr
       clear hb hr HB3 HF3 HG3 HH3)
    | (go_at_call 9; refine (clone9 x2 (by omega) (R2.out.below HB1.out (Nat.le_refl _))).mono ?_; rintro e w2 ⟨u2, rfl, hb, hr⟩
       have HB2 := mkHid (HB1.out.trans (hb.mono HB1.out.size))
       have HF2 := mkHid (HF1.out.below hb (Nat.le_refl _))
       have HG2 := mkHid hr
       clear hb hr HB1 HF1 R2)
    | (go_at_call 10; obtain ⟨s3, g3, e3, -, -⟩ := HH4.out; obtain ⟨s4, g4, e4, -, -⟩ := HU4.out
       refine (new10 n ln u3 u4 w4 s3 s4 len1 len1 len2 len2 e3 e4).mono ?_; rintro e w5 ⟨rfl, hw⟩
       have HW5 := mkHid hw
       clear hw e3 e4 HU4)
    | (go_at_call 11; refine (spread11 q n ln nw w4.heap.size len1 u3 u4 w5 w4 hn1 hn2 HQ.out.le (by omega) HNW.out HH4.out rfl HW5.out.symm).mono ?_; rintro e w6 ⟨rfl, N, B, hb, hSN, hs6⟩
       have hb4 : Below w4.heap.size w4 w6 := Below.trans (HW5.out ▸ (Below.refl _ w4).alloc (Nat.le_refl _) _) hb
       have HB6 := mkHid (HB4.out.trans (hb4.mono HB4.out.size))
       have HF6 := mkHid (HF4.out.below hb4 (Nat.le_refl _))
       have HS6 := mkHid hs6
       have HS0 := mkHid HB4.out.size
       clear hb hb4 hs6 hSN HF4 HH4 HW5 HB4)
    | (go_at_call 12; refine (ints (fun j => (q j : Int) + 1) HX32.out (by omega) HF6.out).mono ?_; rintro e w7 ⟨K, c, rfl, hb, hK, hi⟩
       have HB7 := mkHid (HB6.out.trans (hb.mono HB6.out.size))
       have HF7 := mkHid (HF6.out.below hb (Nat.le_refl _))
       have HKN := mkHid (Nat.lt_of_lt_of_le HS6.out.ltN hK)
       have HS7 := mkHid (HS6.out.below hb HS6.out.ltN)
       have HI7 := mkHid hi
       clear hb hK hi HB6 HF6 HS6)
    | (go_at_call 13; refine (fields13 HS12.out).mono ?_; rintro e w13 ⟨rfl, d, hd⟩
       have HD := mkHid (drew_below hd)
       have HB13 := mkHid (HB12.out.trans (HD.out.mono HB12.out.size))
       have HS13 := mkHid (HS12.out.below HD.out HS12.out.ltN)
       have HR13 := mkHid (HR12.out.below HD.out (Nat.le_refl _))
       clear hd HD HB12 HS12 HR12)
    | (go_at_call 13; refine (fields13 HS7.out).mono ?_; rintro e w8 ⟨rfl, d, hd⟩
       have HD := mkHid (drew_below hd)
       have HB8 := mkHid (HB7.out.trans (HD.out.mono HB7.out.size))
       have HF8 := mkHid (HF7.out.below HD.out (Nat.le_refl _))
       have HS8 := mkHid (HS7.out.below HD.out HS7.out.ltN)
       have HI8 := mkHid (HI7.out.below HD.out (Nat.le_refl _))
       clear hd HD HB7 HF7 HS7 HI7)
    | (go_at_call 14; refine (words14 n nw _ hn1 hn2 HNW.out).mono ?_; rintro e w' ⟨rfl, rfl⟩)
    | (go_at_call 15; refine (exact_second q qp hn2 HQ.out.le hp HNW.out hn1 HS13.out HR13.out).mono ?_; rintro e w14 ⟨rfl, d, hd⟩
       have HD := mkHid (drew_below hd.symm)
       have HB14 := mkHid (HB13.out.trans (HD.out.mono HB13.out.size))
       clear hd HD HB13)
    | (go_at_call 15; refine (exact_first q hn2 HQ.out.le HQ.out.up (by omega) HNW.out hn1 HS8.out HI8.out).mono ?_; rintro e w9 ⟨rfl, d, hd⟩
       have HD := mkHid (drew_below hd.symm)
       have HB9 := mkHid (HB8.out.trans (HD.out.mono HB8.out.size))
       have HF9 := mkHid (HF8.out.below HD.out (Nat.le_refl _))
       have HS9 := mkHid (HS8.out.below HD.out HS8.out.ltN)
       have HI9 := mkHid (HI8.out.below HD.out (Nat.le_refl _))
       clear hd HD HB8 HF8 HS8 HI8)
    | (go_at_call 16; refine (has (fun j => (q j : Int) + 1) ((qp : Int) + 1) (by omega) (by omega) HX32.out (by omega) HF9.out).mono ?_; rintro e w10 (⟨rfl, HYes, d, hd⟩ | ⟨rfl, HNo, d, hd⟩)
       all_goals
         have HD := mkHid (drew_below hd)
         have HB10 := mkHid (HB9.out.trans (HD.out.mono HB9.out.size))
         have HS10 := mkHid (HS9.out.below HD.out HS9.out.ltN)
         have HI10 := mkHid (HI9.out.below HD.out (Nat.le_refl _))
         clear hd HD HB9 HF9 HS9 HI9)
    | (go_at_call 17; refine (add_old HS10.out qp hn2 hp HNW.out (mem_of HYes.out)).mono ?_; rintro e w11 ⟨rfl, d, hd⟩
       have HD := mkHid (drew_below hd)
       have HB11 := mkHid (HB10.out.trans (HD.out.mono HB10.out.size))
       have HS11 := mkHid ((HS10.out.below HD.out HS10.out.ltN).congr (mem_same HYes.out))
       have HI11 := mkHid (HI10.out.below HD.out (Nat.le_refl _))
       clear hd HD HB10 HS10 HI10)
    | (go_at_call 17; refine (add_new HS10.out qp hn2 hp HNW.out (fun h => HNo.out (mem_to h))).mono ?_; rintro e w11 ⟨rfl, hb, hk, h11⟩
       have HB11 := mkHid (HB10.out.trans (hb.mono HS0.out))
       have HS11 := mkHid h11
       have HI11 := mkHid (HI10.out.kept (hk K (Nat.ne_of_gt (Nat.lt_trans HS10.out.lt HKN.out)) (Nat.ne_of_gt HKN.out)) hb.size)
       clear hb hk h11 HB10 HS10 HI10)
    | (go_at_call 18; refine (ins18 (fun j => (q j : Int) + 1) ((qp : Int) + 1) K len1 c (fun i j h1 h2 => by have := HQ.out.up i j h1 h2; show (q i : Int) + 1 < (q j : Int) + 1; omega) w11 (by omega) HI11.out.lt HI11.out.cell).mono ?_; rintro e w12 ⟨u5, m, y, rfl, hb, hr⟩
       have HB12 := mkHid (HB11.out.trans (hb.mono HB11.out.size))
       have HS12 := mkHid (HS11.out.below hb HS11.out.ltN)
       have HR12 := mkHid hr
       clear hb hr HB11 HS11 HI11))
  all_goals
    go_ret
    first | exact ⟨rfl, HB14.out⟩ | exact ⟨rfl, HB0.out⟩ | exact ⟨rfl, Below.refl _ _⟩

set_option maxRecDepth 100000 in
set_option maxHeartbeats 400000 in
/-- An input that the law does not speak of. -/
theorem early (n ln p : Int) (a1 a2 : Option Addr) (len1 cap1 len2 cap2 : Nat) (w : World) (h1 : len1 ≤ maxLen) (h2 : len2 ≤ maxLen) (h : 131072 < len1 ∨ 65536 < len2 ∨ n < 1 ∨ 4194304 < n ∨ p < 1 ∨ n < p) :
    Calls Try.prog 3 #[.int .i64 n, .slice a1 len1 cap1, .slice a2 len2 cap2, .int .i64 ln, .int .i64 p] w fun e w' => e = .returned (.bool true) ∧ Below w.heap.size w w' := by
  have HB := mkHid (bytes6 (.int .i64 n) (.int .i64 ln) (.int .i64 p) a1 a2 len1 cap1 len2 cap2 w h1 h2)
  have HH := mkHid h
  clear h
  go_enter Try.func3, Try.ntmps3
  go_wp2_with (first
    | (go_at_call 6; refine HB.out.mono ?_; rintro e w' (⟨rfl, rfl⟩ | ⟨rfl, rfl⟩))
    | (exfalso; have := HH.out; omega))
  all_goals
    go_ret
    exact ⟨rfl, Below.refl _ _⟩
end Go.Proofs.Qxb6617110a
