import Derived.Test.Qxb6616658aFmtShelf
import Derived.Test.Qxb6616658aFmtNew
namespace Go.Proofs.Qxb6616658aFmt
open Go.RowKit Go.Extern.Stop Go.Stop Go.Extern

def wrA (src : Value) (x : Nat → Int) (ord : Value) (nn : Bool) : Array Value := ([src] ++ (rawL x ++ [ord, .bool nn]) ++ List.replicate 16 (Value.int .u8 0)).toArray
theorem built78 (p : Value) (x : Nat → Int) (ord : Value) (nn : Bool) : Tryf.prog.built 78 [(0, .iface 45 p), (1, .agg (hdrA x ord nn))] = some (wrA (.iface 45 p) x ord nn) := by kernel_rfl
theorem Tryf.mWrite (a : Addr) (w : World) : (method 269 45 (.pointer (some a)) "Write").run Tryf.prog w = .ok (65, .pointer (some a)) w := by kernel_rfl
theorem Tryf.nWrite (a : Addr) (w : World) : (nilAhead 269 45 (.pointer (some a)) "Write").run Tryf.prog w = .ok (some false) w := by kernel_rfl
theorem rawL_one (x : Nat → Int) : ∀ v ∈ rawL x, v.oneCell' = true := by
  intro v hv
  obtain ⟨j, _, rfl⟩ := List.mem_map.1 hv
  rfl
theorem rawL_len (x : Nat → Int) : (rawL x).length = 24 := by simp [rawL]
theorem rawL_get (x : Nat → Int) (j : Nat) (v : Value) (h : (rawL x)[j]? = some v) : j < 24 ∧ v = .int .u8 (x j) := by
  have hj : j < 24 := by have := (List.getElem?_eq_some_iff.1 h).1; simpa [rawL] using this
  refine ⟨hj, ?_⟩
  simpa [rawL, List.getElem?_range hj] using h.symm

set_option maxRecDepth 100000 in
set_option maxHeartbeats 400000 in
theorem newwriter (x : Nat → Int) (ord : Value) (nn : Bool) (B b : Nat) (w : World) (h : Lib.IsBuffer 71 5 B b [] w) :
    Calls Tryf.prog 32 #[.iface 45 (.pointer (some ⟨b, 0, none⟩)), .agg (hdrA x ord nn)] w fun e w' => ∃ N, e = .returned (.tuple #[.pointer (some ⟨N, 0, none⟩), .nilIface]) ∧ Below B w w' ∧ Lib.IsBuffer 71 5 B b (rawL x) w' ∧ b ≠ N ∧
      w'.heap[N]? = some (.cells (wrA (.iface 45 (.pointer (some ⟨b, 0, none⟩))) x ord nn) 78 (0, 0)) := by
  have hm := Tryf.mWrite
  have hna := Tryf.nWrite
  have hbs : b < w.heap.size := h.lt
  have hBb : B ≤ b := h.1
  have HC : Hid (Calls Tryf.prog 65 #[.pointer (some ⟨b, 0, none⟩), .slice (some ⟨w.heap.size, 0, none⟩) 24 24] (w.alloc (.cells (hdrA x ord nn) 37)).drew fun e w' => e = .returned (.tuple #[.int .i64 24, .nilIface]) ∧ Hid (Lib.IsBuffer 71 5 B b (rawL x) w' ∧ Below B w w' ∧ w'.heap[w.heap.size]? = some (.cells (hdrA x ord nn) 37 (0, 0)))) :=
    (Tryf.Buffer_Write_any B b [] (rawL x) ⟨w.heap.size, 0, none⟩ 24 24 (w.alloc (.cells (hdrA x ord nn) 37)).drew (h.alloc _) (by simp; omega) (fun v hv => by cases hv) (rawL_len x) (by show w.heap.size ≠ b; omega) (fun j v hv => by
        obtain ⟨hj, rfl⟩ := rawL_get x j v hv
        have hadd : (⟨w.heap.size, 0, none⟩ : Addr).add j = ⟨w.heap.size, j, none⟩ := by unfold Addr.add; split <;> simp_all
        rw [hadd]
        show (w.alloc (.cells (hdrA x ord nn) 37)).cell? ⟨w.heap.size, j, none⟩ = _
        rw [cell_of_row _ _ _ _ _ _ (heap_alloc_new w _)]
        exact hdrA_get x ord nn j hj) (rawL_one x) (by simp)).mono fun e w' ⟨he, h1, h2, h3⟩ =>
      ⟨he, h1, (((Below.refl B w).alloc (by omega) _).drew).trans h2, h3 w.heap.size _ (heap_alloc_new w _) (by simp; omega) (fun c fz e => by cases e)⟩
  clear h
  go_enter Tryf.func32, Tryf.ntmps32
  go_wp2
  go_region_with (go_at_call 65; refine HC.out.mono ?_; rintro e w1 ⟨rfl, HW⟩)
  all_goals
    go_wp2_with (guard_target = wpList _ _ _ _ _ _; first
      | (refine wpList_load_row rfl 37 _ rfl w.heap.size rfl 37 (hdrA x ord nn) (0, 0) _ HW.out.2.2 Tryf.underlying37 rfl (by rw [hdrA_size]; exact Tryf.info37) ?_)
      | (refine wpList_build_eq rfl 78 #[(0, .tmp 21), (1, .tmp 22)] rfl [(0, .iface 45 (.pointer (some ⟨b, 0, none⟩))), (1, .agg (hdrA x ord nn))] (wrA (.iface 45 (.pointer (some ⟨b, 0, none⟩))) x ord nn) (built78 _ x ord nn) (by kernel_rfl) ?_))
    go_ret2
    obtain ⟨h1, h2, h3⟩ := HW
    have hs := h2.size
    exact ⟨_, rfl, h2.alloc (by omega) _, h1.alloc _, by omega, heap_at _ _ _ rfl⟩

set_option maxRecDepth 100000 in
set_option maxHeartbeats 400000 in
theorem newwriteron (x : Nat → Int) (ord : Value) (nn : Bool) (w : World) :
    Calls Tryf.prog 19 #[.agg (hdrA x ord nn)] w fun e w' => ∃ N b, e = .returned (.tuple #[.pointer (some ⟨N, 0, none⟩), .pointer (some ⟨b, 0, none⟩), .nilIface]) ∧ Below w.heap.size w w' ∧ w.heap.size < b ∧ Lib.IsBuffer 71 5 b b (rawL x) w' ∧ b ≠ N ∧
      w'.heap[N]? = some (.cells (wrA (.iface 45 (.pointer (some ⟨b, 0, none⟩))) x ord nn) 78 (0, 0)) := by
  have HC := mkHid (newwriter x ord nn (w.heap.size + 1) (w.heap.size + 1) ((w.alloc (.cells (hdrA x ord nn) 37)).alloc (.cells #[.slice none 0 0, .int .i64 0, .int .i8 0] 71)) (by simpa using Lib.fresh_isBuffer 71 5 (w.alloc (.cells (hdrA x ord nn) 37))))
  go_enter Tryf.func19, Tryf.ntmps19
  go_wp2_with (first
    | (guard_target = wpList _ _ _ _ _ _; refine wpList_load_row rfl 37 _ rfl w.heap.size rfl 37 (hdrA x ord nn) (0, 0) _ (heap_alloc2_old w _ _) Tryf.underlying37 rfl (by rw [hdrA_size]; exact Tryf.info37) ?_)
    | (go_at_call 32; refine HC.out.mono ?_; rintro e w1 ⟨N, rfl, HW⟩; have HW := mkHid HW))
  go_ret3
  obtain ⟨h1, h2, h3, h4⟩ := HW
  refine ⟨N, w.heap.size + 1, rfl, ?_, by omega, h2, h3, h4⟩
  exact (((Below.refl w.heap.size w).alloc (Nat.le_refl _) _).alloc (by simp) _).trans (h1.mono (by omega))

set_option maxRecDepth 100000 in
set_option maxHeartbeats 400000 in
theorem bufbytes (B b : Nat) (bs : List Value) (w : World) (h : Lib.IsBuffer 71 5 B b bs w) :
    Calls Tryf.prog 20 #[.pointer (some ⟨b, 0, none⟩)] w fun e w' => ∃ v, e = .returned v ∧ w'.ownsRow B 5 1 v bs.length bs ∧ ∃ n, w' = w.drewN n := by
  have HC := mkHid (Tryf.Buffer_Bytes B b bs w h)
  clear h
  go_enter Tryf.func20, Tryf.ntmps20
  go_wp2_with (go_at_call 33; refine HC.out.mono ?_; rintro e w1 ⟨v, rfl, HO, n, rfl⟩; have HO := mkHid HO)
  go_ret
  exact ⟨_, rfl, HO.out, n, rfl⟩
end Go.Proofs.Qxb6616658aFmt
