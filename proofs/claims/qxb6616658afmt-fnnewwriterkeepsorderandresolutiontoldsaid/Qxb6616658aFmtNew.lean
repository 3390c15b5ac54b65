import Derived.Test.Qxb6616658aFmtAtl
import Derived.Test.Qxb6616658aFmtHdr
import Derived.Test.Qxb6616658aFmtParC
import Derived.Stop.LaidErr
namespace Go.Proofs.Qxb6616658aFmt
open Go.RowKit Go.Extern.Stop Go.Stop Go.Extern

theorem mkHid {p : Prop} (h : p) : Hid p := h

set_option maxRecDepth 100000 in
set_option maxHeartbeats 400000 in
theorem readfull {Q : Value → Value → World → Prop} (r : Value) (B : Nat) (w : World)
    (h : Calls Tryf.prog 38 #[r, .slice (some ⟨B, 0, none⟩) 24 24, .int .i64 24] w fun e w' => ∃ v1 v2, e = .returned (.tuple #[v1, v2]) ∧ Q v1 v2 w') :
    Calls Tryf.prog 34 #[r, .slice (some ⟨B, 0, none⟩) 24 24] w fun e w' => ∃ v1 v2, e = .returned (.tuple #[v1, v2]) ∧ Q v1 v2 w' := by
  have H := mkHid h
  clear h
  go_enter Tryf.func34, Tryf.ntmps34
  go_wp2_with (go_at_call 38; refine H.out.mono ?_; rintro e w' ⟨v1, v2, rfl, hq⟩)
  go_ret2
  exact ⟨_, _, rfl, hq⟩

theorem built66 (p : Value) (x : Nat → Int) (ord : Value) (nn : Bool) : Tryf.prog.built 66 [(0, .iface 59 p), (2, .agg (hdrA x ord nn))] = some (rdrA (.iface 59 p) x ord nn) := by kernel_rfl

set_option maxRecDepth 100000 in
set_option maxHeartbeats 400000 in
theorem newreader_ok (F : Interp) (x : Nat → Int) (ord : Value) (nn : Bool) (R g n : Nat) (w : World) (hF : F.answers w.tape) (hor : ord.oneCell' = true) (hn : 24 ≤ n) (hn2 : n ≤ 1048576) (hgR : g < R)
    (hR : w.heap[R]? = some (.cells #[.slice (some ⟨g, 0, none⟩) n n, .int .i64 0, .int .i64 (-1)] 89 (0, 0)))
    (hc : ∀ j, j < n → w.cell? ⟨g, j, none⟩ = some (.int .u8 (x j)))
    (hp : ∀ w, F.answers w.tape → Calls Tryf.prog 37 #[.agg (rawA x)] w fun e w' => e = .returned (.tuple #[.agg (hdrA x ord nn), .nilIface]) ∧ Below w.heap.size w w') :
    Calls Tryf.prog 29 #[.iface 59 (.pointer (some ⟨R, 0, none⟩))] w fun e w' => ∃ N, e = .returned (.tuple #[.pointer (some ⟨N, 0, none⟩), .nilIface]) ∧ Below R w w' ∧ R < N ∧
      w'.heap[N]? = some (.cells (rdrA (.iface 59 (.pointer (some ⟨R, 0, none⟩))) x ord nn) 66 (0, 0)) := by
  have hRs : R < w.heap.size := (Array.getElem?_eq_some_iff.1 hR).1
  have HC : Hid (∀ z : Array Value, z.size = 24 → Calls Tryf.prog 34 #[.iface 59 (.pointer (some ⟨R, 0, none⟩)), .slice (some ⟨w.heap.size, 0, none⟩) 24 24] (w.alloc (.cells z 33)) fun e w' => ∃ v1 v2, e = .returned (.tuple #[v1, v2]) ∧ (v1 = .int .i64 24 ∧ v2 = .nilIface ∧ Hid (Below R w w' ∧ w'.heap.size = w.heap.size + 1 ∧ w'.heap[w.heap.size]? = some (.cells (rawA x) 33 (0, 0))))) := fun z hz =>
    readfull _ _ _ ((atleast_full x R w.heap.size g n z _ hn hn2 hRs hgR (heap_up hR) (heap_alloc_new w _) hz (fun j hj => by rw [Below.cell (B := w.heap.size) ((Below.refl _ w).alloc (Nat.le_refl _) _) (by show g < _; omega)]; exact hc j hj)).mono
      fun e w' ⟨he, h1, h2, h3⟩ => ⟨_, _, he, rfl, rfl, ((Below.refl R w).alloc (by omega) _).trans h1, by rw [h2]; simp, h3⟩)
  have HP := mkHid hp
  clear hR hc hp
  go_enter Tryf.func29, Tryf.ntmps29
  go_wp2_with (first
    | (go_at_call 34; refine (HC.out _ ?_).mono ?_; (· rfl); rintro e w1 ⟨v1, v2, rfl, rfl, rfl, HW⟩)
    | (guard_target = wpList _ _ _ _ _ _; refine wpList_load_row rfl 33 _ rfl w.heap.size rfl 33 (rawA x) (0, 0) _ HW.out.2.2 Tryf.underlying33 rfl (by rw [rawA_size]; exact Tryf.info33) ?_)
    | (go_at_call 37; refine (HP.out _ ?_).mono ?_; (· rw [HW.out.1.tape]; exact hF); rintro e w2 ⟨rfl, hb2⟩; have HB := mkHid hb2; clear hb2)
    | (guard_target = wpList _ _ _ _ _ _; refine wpList_store_top rfl 37 _ _ rfl _ (hdrA x ord nn) rfl rfl 37 _ rfl (by rw [hdrA_size]; exact Tryf.info37) (by rw [hdrA_size]; rfl) (hdrA_one x _ _ hor) ?_)
    | (guard_target = wpList _ _ _ _ _ _; refine wpList_load_row rfl 37 _ rfl _ rfl 37 (hdrA x ord nn) (0, 0) _ (heap_alloc_new _ _) Tryf.underlying37 rfl (by rw [hdrA_size]; exact Tryf.info37) ?_)
    | (guard_target = wpList _ _ _ _ _ _; refine wpList_build_eq rfl 66 #[(0, .tmp 35), (2, .tmp 36)] rfl [(0, .iface 59 (.pointer (some ⟨R, 0, none⟩))), (2, .agg (hdrA x ord nn))] (rdrA (.iface 59 (.pointer (some ⟨R, 0, none⟩))) x ord nn) (built66 _ x ord nn) (by kernel_rfl) ?_))
  go_ret2
  obtain ⟨h1, h2, _⟩ := HW
  have hb2 := HB.out
  have h2s := hb2.size
  refine ⟨_, rfl, ?_, ?_, ?_⟩
  · exact ((h1.trans (hb2.mono (by omega))).alloc (by omega) _).alloc (by simp; omega) _
  · omega
  · exact heap_at _ _ _ (by simp)

set_option maxRecDepth 100000 in
set_option maxHeartbeats 400000 in
theorem newreader_err (F : Interp) (x : Nat → Int) (R g n : Nat) (w : World) (hF : F.answers w.tape) (hn : 24 ≤ n) (hn2 : n ≤ 1048576) (hgR : g < R)
    (hR : w.heap[R]? = some (.cells #[.slice (some ⟨g, 0, none⟩) n n, .int .i64 0, .int .i64 (-1)] 89 (0, 0)))
    (hc : ∀ j, j < n → w.cell? ⟨g, j, none⟩ = some (.int .u8 (x j)))
    (hp : ∀ w, F.answers w.tape → Calls Tryf.prog 37 #[.agg (rawA x)] w fun e w' => (∃ a, e = .returned (.tuple #[.agg hdrZ, .iface 96 (.pointer (some a))])) ∧ Below w.heap.size w w') :
    Calls Tryf.prog 29 #[.iface 59 (.pointer (some ⟨R, 0, none⟩))] w fun e w' => (∃ a, e = .returned (.tuple #[.pointer none, .iface 96 (.pointer (some a))])) ∧ Below R w w' := by
  have hRs : R < w.heap.size := (Array.getElem?_eq_some_iff.1 hR).1
  have HC : Hid (∀ z : Array Value, z.size = 24 → Calls Tryf.prog 34 #[.iface 59 (.pointer (some ⟨R, 0, none⟩)), .slice (some ⟨w.heap.size, 0, none⟩) 24 24] (w.alloc (.cells z 33)) fun e w' => ∃ v1 v2, e = .returned (.tuple #[v1, v2]) ∧ (v1 = .int .i64 24 ∧ v2 = .nilIface ∧ Hid (Below R w w' ∧ w'.heap.size = w.heap.size + 1 ∧ w'.heap[w.heap.size]? = some (.cells (rawA x) 33 (0, 0))))) := fun z hz =>
    readfull _ _ _ ((atleast_full x R w.heap.size g n z _ hn hn2 hRs hgR (heap_up hR) (heap_alloc_new w _) hz (fun j hj => by rw [Below.cell (B := w.heap.size) ((Below.refl _ w).alloc (Nat.le_refl _) _) (by show g < _; omega)]; exact hc j hj)).mono
      fun e w' ⟨he, h1, h2, h3⟩ => ⟨_, _, he, rfl, rfl, ((Below.refl R w).alloc (by omega) _).trans h1, by rw [h2]; simp, h3⟩)
  have HP := mkHid hp
  clear hR hc hp
  go_enter Tryf.func29, Tryf.ntmps29
  go_wp2_with (first
    | (go_at_call 34; refine (HC.out _ ?_).mono ?_; (· rfl); rintro e w1 ⟨v1, v2, rfl, rfl, rfl, HW⟩)
    | (guard_target = wpList _ _ _ _ _ _; refine wpList_load_row rfl 33 _ rfl w.heap.size rfl 33 (rawA x) (0, 0) _ HW.out.2.2 Tryf.underlying33 rfl (by rw [rawA_size]; exact Tryf.info33) ?_)
    | (go_at_call 37; refine (HP.out _ ?_).mono ?_; (· rw [HW.out.1.tape]; exact hF); rintro e w2 ⟨⟨a, rfl⟩, hb2⟩; have HB := mkHid hb2; clear hb2)
    | (guard_target = wpList _ _ _ _ _ _; refine wpList_store_top rfl 37 _ _ rfl _ hdrZ rfl rfl 37 _ rfl (by unfold hdrZ; rw [hdrA_size]; exact Tryf.info37) rfl (hdrA_one _ _ _ rfl) ?_))
  go_ret2
  obtain ⟨h1, h2, _⟩ := HW
  have hb2 := HB.out
  have h2s := hb2.size
  exact ⟨⟨_, rfl⟩, (h1.trans (hb2.mono (by omega))).alloc (by omega) _⟩

set_option maxRecDepth 100000 in
set_option maxHeartbeats 400000 in
theorem newreader_eof (R : Nat) (s : Option Addr) (c : Nat) (a0 : Addr) (w : World) (hRs : R < w.heap.size) (h0s : 0 < w.heap.size)
    (c0 : w.cell? ⟨R, 0, none⟩ = some (.slice s 0 c)) (c1 : w.cell? ⟨R, 1, none⟩ = some (.int .i64 0)) (hE : w.cell? ⟨0, 0, none⟩ = some (.iface 96 (.pointer (some a0)))) :
    Calls Tryf.prog 29 #[.iface 59 (.pointer (some ⟨R, 0, none⟩))] w fun e w' => (∃ a, e = .returned (.tuple #[.pointer none, .iface 96 (.pointer (some a))])) ∧ Below R w w' := by
  have HC : Hid (∀ z : Array Value, Calls Tryf.prog 34 #[.iface 59 (.pointer (some ⟨R, 0, none⟩)), .slice (some ⟨w.heap.size, 0, none⟩) 24 24] (w.alloc (.cells z 33)) fun e w' => ∃ v1 v2, e = .returned (.tuple #[v1, v2]) ∧ (v1 = .int .i64 0 ∧ v2 = .iface 96 (.pointer (some a0)) ∧ ∃ k, w' = (w.alloc (.cells z 33)).drewN k)) := fun z =>
    readfull _ _ _ ((atleast_eof R w.heap.size s c a0 _ (cell?_alloc_old _ c0) (cell?_alloc_old _ c1) (cell?_alloc_old _ hE)).mono
      fun e w' ⟨he, k, hw⟩ => ⟨_, _, he, rfl, rfl, k, hw⟩)
  clear c0 c1
  go_enter Tryf.func29, Tryf.ntmps29
  go_wp2_with (first
    | (go_at_call 34; refine (HC.out _).mono ?_; rintro e w1 ⟨v1, v2, rfl, rfl, rfl, k, rfl⟩)
    | (go_at_call 35; refine (is_same a0 _).mono ?_; rintro e w2 ⟨rfl, rfl⟩)
    | (go_at_call 36; refine (errors_new _ _).mono ?_; rintro e w3 ⟨rfl, rfl⟩))
  go_ret2
  refine ⟨⟨_, rfl⟩, ?_⟩
  exact (below_drewN ((Below.refl _ _).alloc (by omega) _) _).alloc (by simp; omega) _

set_option maxRecDepth 100000 in
set_option maxHeartbeats 400000 in
theorem newreader_short (x : Nat → Int) (R g n : Nat) (a0 a1 : Addr) (k0 k1 : Array Value) (t0 t1 : TypeId) (w : World) (hn0 : 0 < n) (hn : n < 24) (hgR : g < R) (h1R : 1 < R)
    (hR : w.heap[R]? = some (.cells #[.slice (some ⟨g, 0, none⟩) n n, .int .i64 0, .int .i64 (-1)] 89 (0, 0)))
    (hc : ∀ j, j < n → w.cell? ⟨g, j, none⟩ = some (.int .u8 (x j)))
    (hE0 : w.cell? ⟨0, 0, none⟩ = some (.iface 96 (.pointer (some a0)))) (hE1 : w.cell? ⟨1, 0, none⟩ = some (.iface 96 (.pointer (some a1))))
    (hne : a1 ≠ a0) (hb0 : w.heap[a0.block]? = some (.cells k0 t0 (0, 0))) (hb1 : w.heap[a1.block]? = some (.cells k1 t1 (0, 0))) (hl0 : a0.block < R) (hl1 : a1.block < R) :
    Calls Tryf.prog 29 #[.iface 59 (.pointer (some ⟨R, 0, none⟩))] w fun e w' => (∃ a, e = .returned (.tuple #[.pointer none, .iface 96 (.pointer (some a))])) ∧ Below R w w' := by
  have hRs : R < w.heap.size := (Array.getElem?_eq_some_iff.1 hR).1
  have HC : Hid (∀ z : Array Value, z.size = 24 → Calls Tryf.prog 34 #[.iface 59 (.pointer (some ⟨R, 0, none⟩)), .slice (some ⟨w.heap.size, 0, none⟩) 24 24] (w.alloc (.cells z 33)) fun e w' => ∃ v1 v2, e = .returned (.tuple #[v1, v2]) ∧ (v1 = .int .i64 n ∧ v2 = .iface 96 (.pointer (some a1)) ∧ Hid (Below R w w'))) := fun z hz =>
    readfull _ _ _ ((atleast_short x R w.heap.size g n a0 a1 z _ hn0 hn hRs hgR h1R (heap_up hR) (heap_alloc_new w _) hz (fun j hj => by rw [Below.cell (B := w.heap.size) ((Below.refl _ w).alloc (Nat.le_refl _) _) (by show g < _; omega)]; exact hc j hj) (cell?_alloc_old _ hE0) (cell?_alloc_old _ hE1)).mono
      fun e w' ⟨he, h1⟩ => ⟨_, _, he, rfl, rfl, ((Below.refl R w).alloc (by omega) _).trans h1⟩)
  have HI : Hid (∀ w1, Below R w w1 → Calls Tryf.prog 35 #[.iface 96 (.pointer (some a1)), .iface 96 (.pointer (some a0))] w1 fun e w' => e = .returned (.bool false) ∧ w' = w1) := fun w1 h =>
    is_other a1 a0 k1 k0 t1 t0 w1 hne ((h.block _ hl1).trans hb1) ((h.block _ hl0).trans hb0)
  have HE : Hid (∀ w1, Below R w w1 → w1.cell? ⟨0, 0, none⟩ = some (.iface 96 (.pointer (some a0))) ∧ w1.cell? ⟨1, 0, none⟩ = some (.iface 96 (.pointer (some a1)))) := fun w1 h =>
    ⟨(h.cell (p := ⟨0, 0, none⟩) (by show 0 < R; omega)).trans hE0, (h.cell (p := ⟨1, 0, none⟩) (by show 1 < R; omega)).trans hE1⟩
  clear hR hc hE0 hE1 hb0 hb1
  go_enter Tryf.func29, Tryf.ntmps29
  go_wp2_with (first
    | (go_at_call 34; refine (HC.out _ ?_).mono ?_; (· rfl); rintro e w1 ⟨v1, v2, rfl, rfl, rfl, HW⟩; obtain ⟨e0, e1⟩ := HE.out w1 HW.out)
    | (go_at_call_of 35 (Value.pointer (some a0)); refine (HI.out _ HW.out).mono ?_; rintro e w2 ⟨rfl, rfl⟩)
    | (go_at_call 35; refine (is_same a1 _).mono ?_; rintro e w2 ⟨rfl, rfl⟩)
    | (go_at_call 36; refine (errors_new _ _).mono ?_; rintro e w3 ⟨rfl, rfl⟩))
  go_ret2
  refine ⟨⟨_, rfl⟩, HW.out.alloc ?_ _⟩
  have := HW.out.size
  omega
end Go.Proofs.Qxb6616658aFmt
