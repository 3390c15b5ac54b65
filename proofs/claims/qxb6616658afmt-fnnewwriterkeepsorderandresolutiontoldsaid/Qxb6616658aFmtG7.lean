import Derived.Test.Qxb6616658aFmtG6
namespace Go.Proofs.Qxb6616658aFmt
open Go.RowKit Go.Extern.Stop Go.Stop Go.Extern

set_option maxRecDepth 100000 in
set_option maxHeartbeats 600000 in
theorem f6_made0 (x : Nat → Int) (ds : List Value) (d : Nat → Int) (big : Bool) (lk : Int) (s0 sd0 sd : Option Addr) (g gd n c nd cd : Nat) (sec nsec orig : Int) (w w1 w2 : World) (hn : n + nd ≤ 1048576) (hn24 : 24 ≤ n) (hb1 : Below w.heap.size w w1) (hb2 : Below w1.heap.size w1 w2) (hg : g < w2.heap.size)
    (hs0 : 0 ≤ sec) (hs1 : sec ≤ 4294967295) (ho0 : 0 ≤ orig) (ho1 : orig ≤ 4294967295) (hn0 : 0 ≤ nsec) (hn1 : nsec ≤ 18446744073709551615)
    (hor : (ordOf big).oneCell' = true) (hc : ∀ j, j < n → w2.cell? ⟨g, j, none⟩ = some (.int .u8 (x j)))
    (hds : ds = (List.range nd).map fun j => Value.int .u8 (d j)) (hsd : 0 < nd → sd = some ⟨gd, 0, none⟩ ∧ gd < w2.heap.size) (hcd : ∀ j, j < nd → w2.cell? ⟨gd, j, none⟩ = some (.int .u8 (d j)))
    (hD : ∀ w', Below w2.heap.size w2 w' → ∀ b, w2.heap.size ≤ b → DataIn b b sd nd ds w')
    (h8 : Calls Tryf.prog 8 #[.slice s0 n c] w fun e w' => e = .returned (.slice (some ⟨g, 0, none⟩) n n) ∧ w1 = w')
    (h8d : Calls Tryf.prog 8 #[.slice sd0 nd cd] w1 fun e w' => e = .returned (.slice sd nd nd) ∧ w2 = w')
    (h9 : Calls Tryf.prog 9 #[.slice (some ⟨g, 0, none⟩) n n] w2 fun e w' => e = .returned (.tuple #[.bool true, .bool big, .bool false, .int .u32 lk]) ∧ ∃ k, w' = w2.drewN k)
    (h10 : ∀ k, Made x (ordOf big) false (some ⟨g, 0, none⟩) n (w2.drewN k)) :
    Calls Tryf.prog 6 #[.slice s0 n c, .int .u32 sec, .int .u64 nsec, .int .u32 orig, .slice sd0 nd cd] w fun e w' => e = .returned (.bool true) ∧ Below w.heap.size w w' := by
  obtain ⟨i0, hi, hz0, hz1, hz2⟩ := info_parts Tryf.info5
  have H8 := mkHid h8
  have H8d := mkHid h8d
  have H9 := mkHid h9
  have H10 := mkHid h10
  have HC := mkHid hc
  have HD := mkHid hD
  have HDS := mkHid hds
  have HSD := mkHid hsd
  have HCD := mkHid hcd
  clear h8 h8d h9 h10 hc hD hds hsd hcd
  go_enter Tryf.func6, Tryf.ntmps6
  go_wp2_with (first
    | (go_at_call 21; refine (bytes21_any _ _ _ _ _ _ _ _ _ _ hn).mono ?_; rintro e w' ⟨rfl, rfl⟩)
    | (go_at_call 8; have _t := HT; refine H8d.out.mono ?_; rintro e w' ⟨rfl, rfl⟩)
    | (go_at_call 8; refine H8.out.mono ?_; rintro e w' ⟨rfl, rfl⟩; have HT := mkHid trivial)
    | (go_at_call 9; refine H9.out.mono ?_; rintro e w' ⟨rfl, k, rfl⟩)
    | (go_at_call 10; refine (H10.out k).mono ?_; rintro e w3 ⟨v1, v2, rfl, rfl, N1, src, rfl, hb, hN, hh⟩; have HB3 : Hid (Below w2.heap.size w2 w3) := (below_drewN (Below.refl w2.heap.size w2) k).trans (hb.mono (Nat.le_refl _)); have HH := mkHid hh; clear hb hh hN)
    | (go_at_call 11; refine (header_any src x (ordOf big) false N1 _ hor HH.out).mono ?_; rintro e w4 ⟨rfl, hb⟩; have HB4 := mkHid (HB3.out.trans (hb.mono HB3.out.size)); clear hb HB3 HH)
    | (go_at_call 19; refine (newwriteron2 x (ordOf big) false _).mono ?_; rintro e w5 ⟨N, b, rfl, hb, hsb, hB, hbN, hN⟩; have HB5 := mkHid (HB4.out.trans (hb.mono HB4.out.size)); have HS5 := mkHid (Nat.le_trans HB4.out.size (Nat.le_of_lt hsb)); have HI5 := mkHid hB; have HN5 := mkHid hN; have HBN := mkHid hbN; clear hb hsb hB hN hbN HB4)
    | (go_at_call 22; refine (write22 big false sec nsec orig sd nd ds x b N b _ hs0 hs1 ho0 ho1 hn0 hn1 (by omega) (Nat.le_of_lt HBN.out) (Nat.le_refl _) (HI5.out.alloc _) (Nat.ne_of_lt HBN.out) (HD.out _ (HB5.out.alloc HB5.out.size _) b HS5.out) (heap_up (by rw [← wrA_eq]; exact HN5.out))).mono ?_; rintro e w6 ⟨rfl, hB, hb⟩; have HI6 : Hid (Lib.IsBuffer 71 5 b b (rawL x ++ tailL (recH big sec (nsec / 1000 % 4294967296) nd orig) ++ ds) w6) := hB; have HB6 : Hid (Below w2.heap.size w2 w6) := (HB5.out.alloc HB5.out.size _).trans (hb.mono HS5.out); clear hB hb HB5 HI5 HN5)
    | (at_make; refine wpList_make_own _ rfl _ _ 22 rfl w6.heap.size 5 i0 (.int .u8 0) 1 Tryf.underlying22 hi hz0 hz1 _ _ _ (40 + nd) rfl rfl (by omega) (by rw [hz2]; omega) (by unfold maxLen; omega) (Nat.le_refl _) ?_; intro w7 hown0 hgrow0; have HO7 := mkHid hown0; have HL7 : Hid (Below w6.heap.size w6 w7) := (Below.refl _ _).grown hgrow0 (Nat.le_refl _) (fun k h => by cases h); clear hown0 hgrow0))
  go_loopw [22, 23] (fun out sj wr => ∃ (k : Nat), k ≤ 24 ∧ out = .slice (some ⟨w6.heap.size, 0, none⟩) k (40 + nd) ∧ sj = .int .i64 k ∧ Hid (wr.ownsRow w6.heap.size 5 1 (.slice (some ⟨w6.heap.size, 0, none⟩) k (40 + nd)) k ((rawL x).take k)) ∧ Hid (Below w6.heap.size w6 wr)) (fun _ sj _ => 24 - (intOf sj).toNat)
  case atStart => exact ⟨0, Nat.zero_le _, rfl, rfl, HO7, HL7⟩
  case round =>
    clear HO7 HL7
    obtain ⟨k, hk, rfl, rfl, HO, HL⟩ := hrel
    have hsz := HL.out.size
    by_cases hlt : k < 24
    · have hck : wr.cell? ⟨g, k, none⟩ = some (.int .u8 (x k)) := (HL.out.cell (p := ⟨g, k, none⟩) (Nat.lt_of_lt_of_le hg HB6.out.size)).trans ((HB6.out.cell (p := ⟨g, k, none⟩) hg).trans (HC.out k (by omega)))
      have hkn : (k : Int) < n := by omega
      go_wp2_with (at_builtin; refine wpList_append_fits _ rfl (.tmp 109) (.tmp 114) 22 rfl w6.heap.size 5 i0 1 Tryf.underlying22 hi hz1 w6.heap.size k (40 + nd) _ rfl (HO.out.alloc _) ⟨wr.heap.size, 0, none⟩ 1 1 [.int .u8 (x k)] rfl rfl (new_cells wr [.int .u8 (x k)] 5) (one_u8 _) (by omega) ?_; intro w8 hown1 hgrow1; have HO1 := mkHid hown1; have HG1 := mkHid hgrow1; clear hown1 hgrow1)
      go_roundw
      case rel => exact ⟨k + 1, by omega, rfl, by go_num, mkHid (by rw [take_rawL x k hlt]; exact HO1.out), (HL.out.alloc hsz _).grown HG1.out (by simp; omega) (fun k hk => by cases hk; exact Nat.le_refl _)⟩
      case measure => simp [intOf]; omega
    · obtain rfl : k = 24 := by omega
      have hwr : IntKind.u32.wrap (nd : Int) = nd := by rw [IntKind.wrap_u32]; omega
      go_wp2_with (first
      | (go_at_call 23; have _t := P3; refine (put23 big orig ho0 ho1 w6.heap.size w6.heap.size 36 (40 + nd) _ _ P3.out (by omega) L3.out.size (Nat.le_refl _)).mono ?_; clear _t; rintro e wd ⟨rfl, ho, hb, -⟩; have P4 := mkHid ho; have L4 := mkHid (L3.out.trans hb); clear ho hb P3 L3)
      | (go_at_call 23; have _t := P2; refine (put23 big nd (by omega) (by omega) w6.heap.size w6.heap.size 32 (40 + nd) _ _ P2.out (by omega) L2.out.size (Nat.le_refl _)).mono ?_; clear _t; rintro e wc ⟨rfl, ho, hb, -⟩; have P3 := mkHid ho; have L3 := mkHid (L2.out.trans hb); clear ho hb P2 L2)
      | (go_at_call 23; have _t := P1; refine (put23 big (nsec / 1000 % 4294967296) (by omega) (by omega) w6.heap.size w6.heap.size 28 (40 + nd) _ _ P1.out (by omega) L1.out.size (Nat.le_refl _)).mono ?_; clear _t; rintro e wb1 ⟨rfl, ho, hb, -⟩; have P2 := mkHid ho; have L2 := mkHid (L1.out.trans hb); clear ho hb P1 L1)
      | (go_at_call 23; have _t := HO; refine (put23 big sec hs0 hs1 w6.heap.size w6.heap.size 24 (40 + nd) _ _ HO.out (by omega) HL.out.size (Nat.le_refl _)).mono ?_; clear _t; rintro e wa ⟨rfl, ho, hb, -⟩; have P1 := mkHid ho; have L1 := mkHid (HL.out.trans hb); clear ho hb HO HL))
      clear hwr
      have HQ : Hid (∃ pre : List Value, pre = rawL x ++ tailL (recH big sec (nsec / 1000 % 4294967296) nd orig) ∧ pre.length = 40 ∧ wd.ownsRow w6.heap.size 5 1 (.slice (some ⟨w6.heap.size, 0, none⟩) 40 (40 + nd)) 40 pre) := by
        refine ⟨_, rfl, by rw [List.length_append, rawL_len, tailL_len], ?_⟩
        have h := P4.out
        rw [List.take_of_length_le (by rw [rawL_len]; omega)] at h
        rw [tail_words, ← List.append_assoc, ← List.append_assoc, ← List.append_assoc]
        exact h
      obtain ⟨pre, hpre, hpl, hown⟩ := HQ.out
      have HPRE := mkHid (And.intro hpre hpl)
      have HOW := mkHid hown
      clear hpre hpl hown HQ P4
      go_loopw [22, 24] (fun out sj wr => ∃ (k : Nat), k ≤ nd ∧ out = .slice (some ⟨w6.heap.size, 0, none⟩) (40 + k) (40 + nd) ∧ sj = .int .i64 k ∧ Hid (wr.ownsRow w6.heap.size 5 1 (.slice (some ⟨w6.heap.size, 0, none⟩) (40 + k) (40 + nd)) (40 + k) (pre ++ ds.take k)) ∧ Hid (Below w6.heap.size w6 wr)) (fun _ sj _ => nd - (intOf sj).toNat)
      case atStart => exact ⟨0, Nat.zero_le _, rfl, rfl, mkHid (by rw [List.take_zero, List.append_nil]; exact HOW.out), L4⟩
      case round =>
        clear HOW L4
        obtain ⟨k, hk, rfl, rfl, HO, HL⟩ := hrel
        have hsz := HL.out.size
        by_cases hlt : k < nd
        · obtain ⟨rfl, hgd⟩ := HSD.out (by omega)
          have hck : wr.cell? ⟨gd, k, none⟩ = some (.int .u8 (d k)) := (HL.out.cell (p := ⟨gd, k, none⟩) (Nat.lt_of_lt_of_le hgd HB6.out.size)).trans ((HB6.out.cell (p := ⟨gd, k, none⟩) hgd).trans (HCD.out k hlt))
          go_wp2_with (at_builtin; refine wpList_append_fits _ rfl (.tmp 141) (.tmp 146) 22 rfl w6.heap.size 5 i0 1 Tryf.underlying22 hi hz1 w6.heap.size (40 + k) (40 + nd) _ rfl (HO.out.alloc _) ⟨wr.heap.size, 0, none⟩ 1 1 [.int .u8 (d k)] rfl rfl (new_cells wr [.int .u8 (d k)] 5) (one_u8 _) (by omega) ?_; intro w8 hown1 hgrow1; have HO1 := mkHid hown1; have HG1 := mkHid hgrow1; clear hown1 hgrow1)
          go_roundw
          case rel => exact ⟨k + 1, by omega, rfl, by go_num, mkHid (by rw [take_ds HDS.out k hlt, ← List.append_assoc]; exact HO1.out), (HL.out.alloc hsz _).grown HG1.out (by simp; omega) (fun k hk => by cases hk; exact Nat.le_refl _)⟩
          case measure => simp [intOf]; omega
        · have hkn : k = nd := by omega
          subst k
          clear hlt hk hsz
          have HR2 : Hid (wr.ownsRow w6.heap.size 5 1 (.slice (some ⟨w6.heap.size, 0, none⟩) (40 + nd) (40 + nd)) (40 + nd) (rawL x ++ tailL (recH big sec (nsec / 1000 % 4294967296) nd orig) ++ ds)) := by
            have h := HO.out
            rw [take_all HDS.out, HPRE.out.1] at h
            exact h
          have HI7 := mkHid (HI6.out.old HL.out)
          clear HO HPRE HI6
          go_wp2_with (first
            | (go_at_call 20; refine (bufbytes b b _ _ HI7.out).mono ?_; rintro e w9 ⟨v, rfl, hO, m, rfl⟩; rw [all_len x _ HDS.out] at hO; obtain ⟨go, cap, rfl⟩ := own_form hO (by omega); have HC1 := mkHid (row_cells HDS.out hO); clear hO)
            | (go_at_call 24; refine (equal24 (allY x (recH big sec (nsec / 1000 % 4294967296) nd orig) d) _ _ (40 + nd) _ _ _ (by omega) HC1.out (row_cells HDS.out HR2.out)).mono ?_; rintro e w10 ⟨rfl, m2, rfl⟩))
          go_ret
          exact ⟨rfl, hb1.trans ((hb2.trans ((HB6.out.trans ((below_drewN HL.out _).mono HB6.out.size)).mono hb2.size)).mono hb1.size)⟩

end Go.Proofs.Qxb6616658aFmt
