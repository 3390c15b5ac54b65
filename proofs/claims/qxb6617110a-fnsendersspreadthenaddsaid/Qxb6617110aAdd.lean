import Derived.Test.Qxb6617110aExact
namespace Go.Proofs.Qxb6617110a
open Go.RowKit

/-- The set s lies in block S, its words B in block N. -/
structure SetAt (w : World) (S N : Nat) (n ln : Int) (nw : Nat) (B : Nat → Nat) (mem : Nat → Prop) : Prop where
  box : w.heap[S]? = some (.cells #[.int .i64 n, .slice none 0 0, .slice (some ⟨N, 0, none⟩) nw nw, .int .i64 ln] 49 (0, 0))
  row : w.heap[N]? = some (.cells (bitsA B nw) 47 (0, 0))
  holds : Holds B mem
  lt : S < N
theorem SetAt.word {w : World} {S N : Nat} {n ln : Int} {nw : Nat} {B : Nat → Nat} {mem : Nat → Prop} (h : SetAt w S N n ln nw B mem) : ∀ j, j < nw → w.cell? ⟨N, j, none⟩ = some (.int .u64 (B j : Int)) := by
  intro j hj
  rw [cell_of_row _ _ _ _ _ _ h.row, bitsA_get _ _ _ hj]
theorem SetAt.below {w w' : World} {S N T : Nat} {n ln : Int} {nw : Nat} {B : Nat → Nat} {mem : Nat → Prop} (h : SetAt w S N n ln nw B mem) (hb : Below T w w') (hT : N < T) : SetAt w' S N n ln nw B mem :=
  ⟨(hb.block S (Nat.lt_trans h.lt hT)).trans h.box, (hb.block N hT).trans h.row, h.holds, h.lt⟩
theorem SetAt.congr {w : World} {S N : Nat} {n ln : Int} {nw : Nat} {B : Nat → Nat} {mem mem' : Nat → Prop} (h : SetAt w S N n ln nw B mem) (e : ∀ q, mem q ↔ mem' q) : SetAt w S N n ln nw B mem' := ⟨h.box, h.row, h.holds.congr e, h.lt⟩

theorem results_tmp4 {fn : Func} {t u v x : Tmp} (h : fn.results = #[.tmp t, .tmp u, .tmp v, .tmp x]) (tmps : Array Value) (P : Program) (w : World) :
    (results fn tmps).run P w = .ok (.tuple #[tmps.getD t undef, tmps.getD u undef, tmps.getD v undef, tmps.getD x undef]) w := by
  simp [results, h]

set_option maxRecDepth 100000 in
set_option maxHeartbeats 800000 in
theorem add_old {w : World} {S N : Nat} {n ln : Int} {nw : Nat} {B : Nat → Nat} {mem : Nat → Prop} (h : SetAt w S N n ln nw B mem) (q : Nat) (hn2 : n ≤ 4194304) (hq : (q : Int) + 1 ≤ n) (hnw : (n + 63) / 64 = (nw : Int)) (hm : mem q) :
    Calls Try.prog 17 #[.pointer (some ⟨S, 0, none⟩), .int .i64 ((q : Int) + 1)] w fun e w' => e = .returned (.bool false) ∧ ∃ k, w.drewN k = w' := by
  have hs := Lib.run_eql_slice_nil (P := Try.prog)
  have c2 : w.cell? ⟨S, 2, none⟩ = some (.slice (some ⟨N, 0, none⟩) nw nw) := by rw [cell_of_row _ _ _ _ _ _ h.box]; rfl
  have hwd : q / 64 < nw := by omega
  have hcw := h.word (q / 64) hwd
  have ht : (bits .and .u64 (B (q / 64) : Int) (bitI q) != 0) = true := (test_bit _ q (h.holds.lt _)).trans ((h.holds.bit q).2 hm)
  have hwd' : ((q / 64 : Nat) : Int) < (nw : Int) := by omega
  clear hnw hm h
  go_enter Try.func17, Try.ntmps17
  go_wp2_with (go_at_call 27; refine (bitof q _ (by omega)).mono ?_; rintro e w' ⟨rfl, k1, rfl⟩)
  go_ret
  exact ⟨rfl, _, rfl⟩

set_option maxRecDepth 100000 in
set_option maxHeartbeats 800000 in
theorem add_new {w : World} {S N : Nat} {n ln : Int} {nw : Nat} {B : Nat → Nat} {mem : Nat → Prop} (h : SetAt w S N n ln nw B mem) (q : Nat) (hn2 : n ≤ 4194304) (hq : (q : Int) + 1 ≤ n) (hnw : (n + 63) / 64 = (nw : Int)) (hm : ¬ mem q) :
    Calls Try.prog 17 #[.pointer (some ⟨S, 0, none⟩), .int .i64 ((q : Int) + 1)] w fun e w' => e = .returned (.bool true) ∧ Below S w w' ∧ (∀ k, k ≠ S → k ≠ N → w'.heap[k]? = w.heap[k]?) ∧ SetAt w' S N n (wrap64 (ln + 1)) nw (put B q) (fun r => mem r ∨ r = q) := by
  have hs := Lib.run_eql_slice_nil (P := Try.prog)
  have c2 : w.cell? ⟨S, 2, none⟩ = some (.slice (some ⟨N, 0, none⟩) nw nw) := by rw [cell_of_row _ _ _ _ _ _ h.box]; rfl
  have c3 : w.cell? ⟨S, 3, none⟩ = some (.int .i64 ln) := by rw [cell_of_row _ _ _ _ _ _ h.box]; rfl
  have f3 : w.frozen? ⟨S, 3, none⟩ = false := frozen_of_row _ _ _ _ _ h.box
  have hwd : q / 64 < nw := by omega
  have fw : w.frozen? ⟨N, q / 64, none⟩ = false := frozen_of_row _ _ _ _ _ h.row
  have hcw := h.word (q / 64) hwd
  have ht : (bits .and .u64 (B (q / 64) : Int) (bitI q) != 0) = false := (test_bit _ q (h.holds.lt _)).trans (by
    cases hb : (B (q / 64)).testBit (q % 64) with
    | false => rfl
    | true => exact absurd ((h.holds.bit q).1 hb) hm)
  have hor := or_bit (B (q / 64)) q (h.holds.lt _)
  have hne : S ≠ N := Nat.ne_of_lt h.lt
  have hne' : N ≠ S := hne.symm
  have hwd' : ((q / 64 : Nat) : Int) < (nw : Int) := by omega
  have HH := mkHid h
  clear hnw hm h
  go_enter Try.func17, Try.ntmps17
  go_wp2_with (go_at_call 27; refine (bitof q _ (by omega)).mono ?_; rintro e w' ⟨rfl, k1, rfl⟩)
  go_ret
  refine ⟨rfl, ?_, fun k h1 h2 => (heap_setCell_other _ _ _ _ h1).trans (heap_setCell_other _ _ _ _ h2), ⟨?_, ?_, HH.out.holds.put q, HH.out.lt⟩⟩
  · exact ((below_drewN (Below.refl S w) _).setCell (p := ⟨N, q / 64, none⟩) (Nat.le_of_lt HH.out.lt) _).setCell (p := ⟨S, 3, none⟩) (Nat.le_refl _) _
  · exact (heap_setCell_same _ S 3 #[.int .i64 n, .slice none 0 0, .slice (some ⟨N, 0, none⟩) nw nw, .int .i64 ln] 49 _ ((heap_setCell_other _ _ _ _ hne).trans HH.out.box)).trans rfl
  · refine (heap_setCell_other _ _ _ _ hne').trans ?_
    refine (heap_setCell_same _ N (q / 64) _ 47 _ HH.out.row).trans ?_
    rw [bitsA_put B nw q hwd]

set_option maxRecDepth 100000 in
set_option maxHeartbeats 800000 in
theorem fields13 {w : World} {S N : Nat} {n ln : Int} {nw : Nat} {B : Nat → Nat} {mem : Nat → Prop} (h : SetAt w S N n ln nw B mem) :
    Calls Try.prog 13 #[.pointer (some ⟨S, 0, none⟩)] w fun e w' => e = .returned (.tuple #[.int .i64 n, .slice none 0 0, .slice (some ⟨N, 0, none⟩) nw nw, .int .i64 ln]) ∧ ∃ k, w.drewN k = w' := by
  have c0 : w.cell? ⟨S, 0, none⟩ = some (.int .i64 n) := by rw [cell_of_row _ _ _ _ _ _ h.box]; rfl
  have c1 : w.cell? ⟨S, 1, none⟩ = some (.slice none 0 0) := by rw [cell_of_row _ _ _ _ _ _ h.box]; rfl
  have c2 : w.cell? ⟨S, 2, none⟩ = some (.slice (some ⟨N, 0, none⟩) nw nw) := by rw [cell_of_row _ _ _ _ _ _ h.box]; rfl
  have c3 : w.cell? ⟨S, 3, none⟩ = some (.int .i64 ln) := by rw [cell_of_row _ _ _ _ _ _ h.box]; rfl
  clear h
  go_enter Try.func13, Try.ntmps13
  go_wp2
  go_quiet (fail)
  go_wp2
  refine bodyPost_ret (results_tmp4 rfl _ _ _) rfl ?_
  exact ⟨rfl, _, rfl⟩
end Go.Proofs.Qxb6617110a
