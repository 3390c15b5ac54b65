import Derived.Test.Qxb6617110aBits
namespace Go.Proofs.Qxb6617110a
open Go.RowKit

theorem heap_at (w : World) (o : Obj) (k : Nat) (h : k = w.heap.size) : (w.alloc o).heap[k]? = some o := by subst h; exact heap_alloc_new w o
theorem heap_up {w : World} {o v : Obj} {k : Nat} (h : w.heap[k]? = some v) : (w.alloc o).heap[k]? = some v := by
  rw [Below.heap_alloc w o k (Array.getElem?_eq_some_iff.1 h).1]; exact h

theorem setNew (W : World) (cs : Array Value) (t : TypeId) (m N i : Nat) (v : Value) (h : N = W.heap.size) : ((W.alloc (.cells cs t)).drewN m).setCell ⟨N, i, none⟩ v = (W.alloc (.cells (cs.setIfInBounds i v) t)).drewN m := by
  have := World.setCell_alloc_at (w := W) cs t N i v h
  rw [← this]
  rfl
theorem below_drewN {B : Nat} {a w : World} (h : Below B a w) (m : Nat) : Below B a (w.drewN m) := ⟨h.os, h.tape, h.output, h.size, h.block⟩

set_option maxRecDepth 100000 in
set_option maxHeartbeats 400000 in
theorem spread_any (q : Nat → Nat) (n ln : Int) (nw S g len : Nat) (s : Option Addr) (bv : Value) (w : World) (hn1 : 1 ≤ n) (hn2 : n ≤ 4194304) (hq : ∀ j, j < len → (q j : Int) + 1 ≤ n) (hlen : len ≤ 1048576) (hnw : (n + 63) / 64 = (nw : Int)) (hs : 0 < len → s = some ⟨g, 0, none⟩) (hgS : 0 < len → g < S)
    (hS : w.heap[S]? = some (.cells #[.int .i64 n, .slice s len len, bv, .int .i64 ln] 49 (0, 0)))
    (hc : ∀ j, j < len → w.cell? ⟨g, j, none⟩ = some (.int .u32 ((q j : Int) + 1))) :
    Calls Try.prog 26 #[.pointer (some ⟨S, 0, none⟩)] w fun e w' => e = .returned (.tuple #[]) ∧ ∃ N B, Below S w w' ∧ S < N ∧ Holds B (fun r => ∃ i, i < len ∧ q i = r) ∧
      w'.heap[S]? = some (.cells #[.int .i64 n, .slice none 0 0, .slice (some ⟨N, 0, none⟩) nw nw, .int .i64 ln] 49 (0, 0)) ∧ w'.heap[N]? = some (.cells (bitsA B nw) 47 (0, 0)) := by
  have hSs : S < w.heap.size := (Array.getElem?_eq_some_iff.1 hS).1
  have c0 : w.cell? ⟨S, 0, none⟩ = some (.int .i64 n) := by rw [cell_of_row _ _ _ _ _ _ hS]; rfl
  have c1 : w.cell? ⟨S, 1, none⟩ = some (.slice s len len) := by rw [cell_of_row _ _ _ _ _ _ hS]; rfl
  have c2 : w.cell? ⟨S, 2, none⟩ = some bv := by rw [cell_of_row _ _ _ _ _ _ hS]; rfl
  have f1 : w.frozen? ⟨S, 1, none⟩ = false := frozen_of_row _ _ _ _ _ hS
  have f2 : w.frozen? ⟨S, 2, none⟩ = false := frozen_of_row _ _ _ _ _ hS
  have hnwb : nw ≤ 65536 := by omega
  have hmk := run_make_row' (P := Try.prog) 23 47 (.int .u64 0) 8 Try.underlying23 Try.info47 rfl .i64 .i64 nw (by omega) (by omega)
  have HS := mkHid hS
  clear hS
  go_enter Try.func26, Try.ntmps26
  go_wp2
  generalize hW : w.setCell ⟨S, 2, none⟩ (.slice (some ⟨w.heap.size, 0, none⟩) nw nw) = W2
  have hsz : W2.heap.size = w.heap.size := by rw [← hW]; simp
  have h2S : W2.heap[S]? = some (.cells #[.int .i64 n, .slice s len len, .slice (some ⟨w.heap.size, 0, none⟩) nw nw, .int .i64 ln] 49 (0, 0)) := by rw [← hW]; exact heap_setCell_same w S 2 _ 49 _ HS.out
  have h2b : Below S w W2 := by rw [← hW]; exact (Below.refl S w).setCell (p := ⟨S, 2, none⟩) (Nat.le_refl _) _
  have d1 : W2.cell? ⟨S, 1, none⟩ = some (.slice s len len) := by rw [cell_of_row _ _ _ _ _ _ h2S]; rfl
  have d2 : W2.cell? ⟨S, 2, none⟩ = some (.slice (some ⟨w.heap.size, 0, none⟩) nw nw) := by rw [cell_of_row _ _ _ _ _ _ h2S]; rfl
  have e1 : W2.frozen? ⟨S, 1, none⟩ = false := frozen_of_row _ _ _ _ _ h2S
  have HK : Hid (∀ j, j < len → W2.cell? ⟨g, j, none⟩ = some (.int .u32 ((q j : Int) + 1))) := fun j hj => (h2b.cell (p := ⟨g, j, none⟩) (hgS (by omega))).trans (hc j hj)
  have HW2 := mkHid (And.intro h2S h2b)
  have HQ := mkHid hq
  have HE := mkHid hs
  have HNW := mkHid hnw
  clear hnw hc hmk c0 c1 c2 f1 f2 HS h2S h2b hW hq hs
  go_loopw [21] (fun i wr => ∃ (k m : Nat) (B : Nat → Nat), k ≤ len ∧ i = .int .i64 k ∧ wr = (W2.alloc (.cells (bitsA B nw) 47)).drewN m ∧ Hid (Holds B (fun r => ∃ i, i < k ∧ q i = r))) (fun i _ => len - (intOf i).toNat)
  case atStart => exact ⟨0, 0, fun _ => 0, Nat.zero_le _, rfl, by rw [bitsA_zero]; rfl, Holds.empty.congr (fun r => ⟨fun h => h.elim, fun ⟨i, h, _⟩ => absurd h (Nat.not_lt_zero _)⟩)⟩
  case round =>
    obtain ⟨k, m, B, hk, rfl, rfl, HB⟩ := hrel
    by_cases hlt : k < len
    · obtain rfl := HE.out (by omega)
      have hqk := HQ.out k hlt
      have hck := HK.out k hlt
      have hg2 : g < w.heap.size := by have := hgS (by omega); omega
      have hwd : q k / 64 < nw := by have := HNW.out; omega
      have hwd' : ((q k / 64 : Nat) : Int) < (nw : Int) := by omega
      have hd := bitsA_get B nw (q k / 64) hwd
      have hor := or_bit (B (q k / 64)) (q k) (HB.out.lt _)
      have HP := mkHid (bitsA_put B nw (q k) hwd)
      go_wp2_with (go_at_call 27; refine (bitof (q k) _ (by omega)).mono ?_; rintro e w' ⟨rfl, k1, rfl⟩)
      go_roundw
      case rel =>
        refine ⟨k + 1, _, put B (q k), by omega, by go_num, (setNew W2 _ _ _ _ _ _ hsz.symm).trans (by rw [HP.out]), (HB.out.put (q k)).congr fun r => ?_⟩
        constructor
        · rintro (⟨i, h1, h2⟩ | rfl)
          · exact ⟨i, by omega, h2⟩
          · exact ⟨k, by omega, rfl⟩
        · rintro ⟨i, h1, h2⟩
          by_cases h3 : i = k
          · right; rw [← h2, h3]
          · left; exact ⟨i, by omega, h2⟩
      case measure => simp [intOf]; omega
    · obtain rfl : k = len := by omega
      go_wp2
      go_end0
      refine ⟨rfl, w.heap.size, B, ?_, hSs, HB.out, ?_, ?_⟩
      · exact (below_drewN (HW2.out.2.alloc (by omega) _) _).setCell (p := ⟨S, 1, none⟩) (Nat.le_refl _) _
      · exact heap_setCell_same _ S 1 _ 49 _ (heap_up HW2.out.1)
      · refine (heap_setCell_other _ _ _ _ ?_).trans (heap_at W2 _ _ hsz.symm)
        exact Nat.ne_of_gt hSs
end Go.Proofs.Qxb6617110a
