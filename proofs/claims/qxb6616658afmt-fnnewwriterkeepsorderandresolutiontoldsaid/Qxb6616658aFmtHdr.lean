import Derived.Test.Qxb6616658aFmtLeaf
namespace Go.Proofs.Qxb6616658aFmt
open Go.RowKit

def rdrA (src : Value) (x : Nat → Int) (ord : Value) (nn : Bool) : Array Value := ([src, .pointer none] ++ (rawL x ++ [ord, .bool nn]) ++ (Value.int .i64 0 :: List.replicate 16 (Value.int .u8 0))).toArray
theorem rdrA_size (src : Value) (x : Nat → Int) (ord : Value) (nn : Bool) : (rdrA src x ord nn).size = 45 := by simp [rdrA, rawL]
theorem rdrA_hdr (src : Value) (x : Nat → Int) (ord : Value) (nn : Bool) : (rdrA src x ord nn).extract 2 (2 + 26) = hdrA x ord nn := by kernel_rfl

set_option maxRecDepth 100000 in
set_option maxHeartbeats 400000 in
theorem header_any (src : Value) (x : Nat → Int) (ord : Value) (nn : Bool) (R : Nat) (w : World) (ho : ord.oneCell' = true) (hR : w.heap[R]? = some (.cells (rdrA src x ord nn) 66 (0, 0))) :
    Calls Tryf.prog 11 #[.pointer (some ⟨R, 0, none⟩)] w fun e w' => e = .returned (.agg (hdrA x ord nn)) ∧ Below w.heap.size w w' := by
  have hlt : R < w.heap.size := (Array.getElem?_eq_some_iff.1 hR).1
  have HR : Hid (∀ o, (w.alloc o).heap[R]? = some (.cells (rdrA src x ord nn) 66 (0, 0))) := fun o => (Below.heap_alloc w o R hlt).trans hR
  have hce : w.cell? ⟨R, 0, none⟩ = some src := by rw [cell_of_row _ _ _ _ _ _ hR]; simp [rdrA]
  clear hR
  go_enter Tryf.func11, Tryf.ntmps11
  go_wp2_with (first
    | (refine wpList_load_sub rfl 37 _ rfl R 2 26 rfl 66 (rdrA src x ord nn) (0, 0) _ (HR.out _) Tryf.underlying37 rfl Tryf.info37 (by rw [rdrA_size]; omega) ?_; rw [rdrA_hdr])
    | (refine wpList_store_top rfl 37 _ _ rfl (w.heap.size) (hdrA x ord nn) rfl rfl 37 _ (by simp) (by rw [hdrA_size]; exact Tryf.info37) (by rw [hdrA_size]; rfl) (hdrA_one x _ _ ho) ?_))
  exact bodyPost_ret (v := .agg (hdrA x ord nn)) (results_cell_row Tryf.results11 _ _ (w.heap.size) 37 (hdrA x ord nn) (0, 0) _ rfl (heap_alloc_new w _) Tryf.underlying37 rfl (by rw [hdrA_size]; exact Tryf.info37)) rfl
    ⟨rfl, (Below.refl _ _).alloc (Nat.le_refl _) _⟩
end Go.Proofs.Qxb6616658aFmt
