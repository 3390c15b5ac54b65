import Derived.Test.Qxb6616658aFmtWra
namespace Go.Proofs.Qxb6616658aFmt
open Go.RowKit Go.Extern.Stop Go.Stop Go.Extern
set_option linter.unusedVariables false

set_option maxRecDepth 100000 in
set_option maxHeartbeats 1000000 in
theorem write22_be1 (sec nsec orig : Int) (sd : Option Addr) (nd : Nat) (ds : List Value) (x : Nat → Int) (T N b : Nat) (w : World) (hs0 : 0 ≤ sec) (hs1 : sec ≤ 4294967295) (ho0 : 0 ≤ orig) (ho1 : orig ≤ 4294967295) (hn0 : 0 ≤ nsec) (hn1 : nsec ≤ 18446744073709551615)
    (hnd : nd ≤ 1048576) (hTN : T ≤ N) (hTb : T ≤ b) (h : Lib.IsBuffer 71 5 b b (rawL x) w) (hne : b ≠ N) (hD : DataIn T b sd nd ds w)
    (hN : w.heap[N]? = some (.cells (wrB (.iface 45 (.pointer (some ⟨b, 0, none⟩))) x (.iface 102 (.agg #[])) true (fun _ => 0)) 78 (0, 0))) :
    Calls Tryf.prog 22 #[.pointer (some ⟨N, 0, none⟩), .agg #[.int .u32 sec, .int .u64 nsec, .int .u32 orig, .slice sd nd nd, .int .u32 0, .pointer none]] w fun e w' => e = .returned .nilIface ∧ Lib.IsBuffer 71 5 b b (rawL x ++ tailL (recH true sec (nsec % 4294967296) nd orig) ++ ds) w' ∧ Below T w w' := by
  have hm := Tryf.mPutBe
  have hna := Tryf.nPutBe
  have hm2 := Tryf.mWrite
  have hna2 := Tryf.nWrite
  have hg : N < w.heap.size := (Array.getElem?_eq_some_iff.1 hN).1
  have hbs : b < w.heap.size := h.lt
  have k0 : w.cell? ⟨N, 0, none⟩ = some (.iface 45 (.pointer (some ⟨b, 0, none⟩))) := by rw [cell_of_row _ _ _ _ _ _ hN]; exact wrB_src _ _ _ _ _
  have k25 : w.cell? ⟨N, 25, none⟩ = some (.iface 102 (.agg #[])) := by rw [cell_of_row _ _ _ _ _ _ hN]; exact wrB_ord _ _ _ _ _
  have k26 : w.cell? ⟨N, 26, none⟩ = some (.bool true) := by rw [cell_of_row _ _ _ _ _ _ hN]; exact wrB_nn _ _ _ _ _
  have HN := mkHid hN
  have HB := mkHid h
  have HD := mkHid hD
  have hfr0 : 0 ≤ (nsec % 4294967296) := by omega
  have hfr1 : (nsec % 4294967296) ≤ 4294967295 := by omega
  clear hN h hD
  go_enter Tryf.func22, Tryf.ntmps22
  go_wp2
  go_quiet (fail)
  have hg1 : N < ((w.alloc (.cells #[.int .u32 sec, .int .u64 nsec, .int .u32 orig, .slice sd nd nd, .int .u32 0, .pointer none] 53)).drewN nq).heap.size := by simp; omega
  have HN1 : Hid (((w.alloc (.cells #[.int .u32 sec, .int .u64 nsec, .int .u32 orig, .slice sd nd nd, .int .u32 0, .pointer none] 53)).drewN nq).heap[N]? = some (.cells (wrB (.iface 45 (.pointer (some ⟨b, 0, none⟩))) x (.iface 102 (.agg #[])) true (fun _ => 0)) 78 (0, 0))) := heap_up HN.out
  have HR1 : Hid (((w.alloc (.cells #[.int .u32 sec, .int .u64 nsec, .int .u32 orig, .slice sd nd nd, .int .u32 0, .pointer none] 53)).drewN nq).heap[w.heap.size]? = some (.cells #[.int .u32 sec, .int .u64 nsec, .int .u32 orig, .slice sd nd nd, .int .u32 0, .pointer none] 53 (0, 0))) := heap_alloc_new w _
  have HB1 : Hid (Lib.IsBuffer 71 5 b b (rawL x) ((w.alloc (.cells #[.int .u32 sec, .int .u64 nsec, .int .u32 orig, .slice sd nd nd, .int .u32 0, .pointer none] 53)).drewN nq)) := (HB.out.alloc _).drewN _
  have HL1 : Hid (Below T w ((w.alloc (.cells #[.int .u32 sec, .int .u64 nsec, .int .u32 orig, .slice sd nd nd, .int .u32 0, .pointer none] 53)).drewN nq)) := below_drewN ((Below.refl T w).alloc (by omega) _) _
  generalize (w.alloc (.cells #[.int .u32 sec, .int .u64 nsec, .int .u32 orig, .slice sd nd nd, .int .u32 0, .pointer none] 53)).drewN nq = W1 at *
  have HR : Hid (∀ wx, W1.grownBy wx (some N) → wx.heap[w.heap.size]? = some (.cells #[.int .u32 sec, .int .u64 nsec, .int .u32 orig, .slice sd nd nd, .int .u32 0, .pointer none] 53 (0, 0))) := fun wx hx => (hx.block w.heap.size (Array.getElem?_eq_some_iff.1 HR1.out).1 (fun e => by have := Option.some.inj e; omega)).trans HR1.out
  have r0 : W1.cell? ⟨w.heap.size, 0, none⟩ = some (.int .u32 sec) := by rw [cell_of_row _ _ _ _ _ _ HR1.out]; rfl
  have HP := mkHid (put90 sec hs0 hs1 _ x _ _ _ N 0 16 W1.drew (by omega) HN1.out)
  go_upto_region 5 with fail
  go_cut [] from 12 (fun wx => Hid (W1.grownBy wx (some N) ∧ wx.heap[N]? = some (.cells (wrB (.iface 45 (.pointer (some ⟨b, 0, none⟩))) x (.iface 102 (.agg #[])) true (upd (fun _ => 0) 0 (wordF true sec))) 78 (0, 0))))
  case first =>
    go_region_with (go_at_call 90; refine HP.out.mono ?_; rintro e w2 ⟨rfl, hg2, hN2⟩)
    all_goals
      go_wp2_with fail
      go_meet
      exact ⟨grown_drew hg2, hN2⟩
  case rest =>
    clear HP r0
    obtain ⟨W2, hW2⟩ : ∃ W2, W2 = wc := ⟨wc, rfl⟩
    subst hW2
    have H2 := hcut
    clear hcut
    have HP := mkHid (put90 (nsec % 4294967296) hfr0 hfr1 _ x _ _ _ N 4 12 W2.drew (by omega) H2.out.2)
    go_upto_region 6 with fail
    go_cut [] from 12 (fun wx => Hid (W1.grownBy wx (some N) ∧ wx.heap[N]? = some (.cells (wrB (.iface 45 (.pointer (some ⟨b, 0, none⟩))) x (.iface 102 (.agg #[])) true (upd (upd (fun _ => 0) 0 (wordF true sec)) 4 (wordF true (nsec % 4294967296)))) 78 (0, 0))))
    case first =>
      go_region_with (go_at_call 90; refine HP.out.mono ?_; rintro e w2 ⟨rfl, hg2, hN2⟩)
      all_goals
        go_wp2_with fail
        go_meet
        exact ⟨grown_trans H2.out.1 hg2, hN2⟩
    case rest =>
      clear HP
      obtain ⟨W3, hW3⟩ : ∃ W3, W3 = wc := ⟨wc, rfl⟩
      subst hW3
      have H3 := hcut
      clear hcut H2
      have r3 : W3.cell? ⟨w.heap.size, 3, none⟩ = some (.slice sd nd nd) := by rw [cell_of_row _ _ _ _ _ _ (HR.out W3 H3.out.1)]; rfl
      have hwr : IntKind.u32.wrap (nd : Int) = nd := by rw [IntKind.wrap_u32]; omega
      have HP := mkHid (put90 nd (by omega) (by omega) _ x _ _ _ N 8 8 W3.drew (by omega) H3.out.2)
      go_upto_region 7 with fail
      go_cut [] from 12 (fun wx => Hid (W1.grownBy wx (some N) ∧ wx.heap[N]? = some (.cells (wrB (.iface 45 (.pointer (some ⟨b, 0, none⟩))) x (.iface 102 (.agg #[])) true (upd (upd (upd (fun _ => 0) 0 (wordF true sec)) 4 (wordF true (nsec % 4294967296))) 8 (wordF true nd))) 78 (0, 0))))
      case first =>
        go_region_with (go_at_call 90; refine HP.out.mono ?_; rintro e w2 ⟨rfl, hg2, hN2⟩)
        all_goals
          go_wp2_with fail
          go_meet
          exact ⟨grown_trans H3.out.1 hg2, hN2⟩
      case rest =>
        clear HP r3 hwr
        obtain ⟨W4, hW4⟩ : ∃ W4, W4 = wc := ⟨wc, rfl⟩
        subst hW4
        have H4 := hcut
        clear hcut H3
        have r2 : W4.cell? ⟨w.heap.size, 2, none⟩ = some (.int .u32 orig) := by rw [cell_of_row _ _ _ _ _ _ (HR.out W4 H4.out.1)]; rfl
        have HP := mkHid (put90 orig ho0 ho1 _ x _ _ _ N 12 4 W4.drew (by omega) H4.out.2)
        go_upto_region 8 with fail
        go_cut [] from 12 (fun wx => Hid (W1.grownBy wx (some N) ∧ wx.heap[N]? = some (.cells (wrB (.iface 45 (.pointer (some ⟨b, 0, none⟩))) x (.iface 102 (.agg #[])) true (recH true sec (nsec % 4294967296) nd orig)) 78 (0, 0))))
        case first =>
          go_region_with (go_at_call 90; refine HP.out.mono ?_; rintro e w2 ⟨rfl, hg2, hN2⟩)
          all_goals
            go_wp2_with fail
            go_meet
            exact ⟨grown_trans H4.out.1 hg2, hN2⟩
        case rest =>
          clear HP r2
          obtain ⟨W5, hW5⟩ : ∃ W5, W5 = wc := ⟨wc, rfl⟩
          subst hW5
          have H5 := hcut
          clear hcut H4
          have n0 : W5.cell? ⟨N, 0, none⟩ = some (.iface 45 (.pointer (some ⟨b, 0, none⟩))) := by rw [cell_of_row _ _ _ _ _ _ H5.out.2]; exact wrB_src _ _ _ _ _
          have HB5 : Hid (Lib.IsBuffer 71 5 b b (rawL x) W5) := buf_grown HB1.out H5.out.1 HN1.out hne
          have HL5 : Hid (Below T w W5) := HL1.out.grown H5.out.1 (Nat.le_trans (by omega) HL1.out.size) (fun k hk => by rw [← Option.some.inj hk]; exact hTN)
          have HC := mkHid (Tryf.Buffer_Write_any b b (rawL x) (tailL (recH true sec (nsec % 4294967296) nd orig)) ⟨N, 27, none⟩ 16 16 W5 HB5.out (Nat.le_of_lt HB5.out.lt) (rawL_one x) (tailL_len _) (fun e => hne e.symm) (fun j v hv => by
            obtain ⟨hj, rfl⟩ := tailL_get _ j v hv
            rw [Addr.add_lit, cell_of_row _ _ _ _ _ _ H5.out.2]
            exact wrB_buf _ _ _ _ _ _ hj) (tailL_one _) (by rw [rawL_len]; omega))
          go_upto_region 12 with (go_at_call 65; refine HC.out.mono ?_; rintro e w6 ⟨rfl, hB6, hL6, hK6⟩; have n6 : w6.cell? ⟨N, 0, none⟩ = some (.iface 45 (.pointer (some ⟨b, 0, none⟩))) := by { rw [cell_of_row _ _ _ _ _ _ (hK6 N _ H5.out.2 (by intro e; exact hne (Option.some.inj e).symm) (fun c fz e => by cases e))]; exact wrB_src _ _ _ _ _ }; have r6 : w6.cell? ⟨w.heap.size, 3, none⟩ = some (.slice sd nd nd) := by { rw [cell_of_row _ _ _ _ _ _ (hK6 w.heap.size _ (HR.out W5 H5.out.1) (by intro e; have := Option.some.inj e; omega) (fun c fz e => by cases e))]; rfl }; have HB6 := mkHid hB6; have HL6 : Hid (Below T w w6) := HL5.out.trans (hL6.mono hTb); clear hB6 hL6 hK6)
          have HD6 := mkHid (HD.out _ w6.drew HB6.out HL6.out.drew (fun v hv => by
            rcases List.mem_append.1 hv with h | h
            · exact rawL_one x v h
            · exact tailL_one _ v h) (by rw [List.length_append, rawL_len, tailL_len]; omega))
          go_region_with (go_at_call 65; refine HD6.out.mono ?_; rintro e w7 ⟨rfl, hB7, hL7⟩; have HB7 := mkHid hB7; have HL7 : Hid (Below T w w7) := (HL6.out.drew).trans (hL7.mono hTb); clear hB7 hL7)
          all_goals
            go_wp2
            go_ret
            exact ⟨rfl, HB7.out, HL7.out⟩
end Go.Proofs.Qxb6616658aFmt
