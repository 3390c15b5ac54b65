import Derived.Test.Qxb6616701aFmtIs
import Derived.Test.Qxb6616701aFmtErrf
import Derived.Laws.Rows
import Derived.Stop.LaidErr
namespace Go.Proofs.Qxb6616701aFmt
open Go.RowKit Go.Extern.Stop Go.Stop Go.Extern

theorem mkHid {p : Prop} (h : p) : Hid p := h

/-- What the three listed sentinels give: ErrMalformed at m, io.EOF at e0, io.ErrUnexpectedEOF at e1. -/
structure Sent (w : World) (m e0 e1 : Addr) : Prop where
  gm : w.cell? ⟨0, 0, none⟩ = some (.iface 38 (.pointer (some m)))
  g0 : w.cell? ⟨1, 0, none⟩ = some (.iface 38 (.pointer (some e0)))
  g1 : w.cell? ⟨2, 0, none⟩ = some (.iface 38 (.pointer (some e1)))
  sm : ∃ s, w.cell? m = some (.string s)
  pm : Plain w m
  p0 : Plain w e0
  p1 : Plain w e1
  n0 : m ≠ e0
  n1 : m ≠ e1
  n01 : e0 ≠ e1

theorem Plain.lt {w : World} {a : Addr} (h : Plain w a) : a.block < w.heap.size := by
  obtain ⟨_, _, h⟩ := h
  exact (Array.getElem?_eq_some_iff.1 h).1
theorem Plain.below {w w' : World} {a : Addr} (h : Plain w a) (hb : Below w.heap.size w w') : Plain w' a := by
  have hl := h.lt
  obtain ⟨c, t, h⟩ := h
  exact ⟨c, t, (hb.block _ hl).trans h⟩
theorem cell_below {w w' : World} {a : Addr} {v : Value} (h : w.cell? a = some v) (hb : Below w.heap.size w w') : w'.cell? a = some v := (hb.cell (block_lt_of_cell h)).trans h
theorem Sent.below {w w' : World} {m e0 e1 : Addr} (h : Sent w m e0 e1) (hb : Below w.heap.size w w') : Sent w' m e0 e1 := by
  obtain ⟨s, hs⟩ := h.sm
  exact ⟨cell_below h.gm hb, cell_below h.g0 hb, cell_below h.g1 hb, ⟨s, cell_below hs hb⟩, h.pm.below hb, h.p0.below hb, h.p1.below hb, h.n0, h.n1, h.n01⟩

/-- A wrap at block o of 'inner', in plain memory. -/
def Wraps (w : World) (o : Nat) (inner : Value) : Prop := ∃ t, w.heap[o]? = some (.cells #[.string t, inner] 76 (0, 0))
theorem Wraps.inner {w : World} {o : Nat} {v : Value} (h : Wraps w o v) : w.cell? ⟨o, 1, none⟩ = some v := by
  obtain ⟨t, h⟩ := h
  rw [cell_of_row _ _ _ _ _ _ h]; rfl
theorem Wraps.text {w : World} {o : Nat} {v : Value} (h : Wraps w o v) : ∃ s, w.cell? ⟨o, 0, none⟩ = some (.string s) := by
  obtain ⟨t, h⟩ := h
  exact ⟨t, by rw [cell_of_row _ _ _ _ _ _ h]; rfl⟩
theorem Wraps.plain {w : World} {o : Nat} {v : Value} (h : Wraps w o v) : Plain w ⟨o, 0, none⟩ := by
  obtain ⟨t, h⟩ := h
  exact ⟨_, _, h⟩
theorem Wraps.below {w w' : World} {o : Nat} {v : Value} (h : Wraps w o v) (hb : Below w.heap.size w w') : Wraps w' o v := by
  obtain ⟨t, h⟩ := h
  exact ⟨t, (hb.block _ (Array.getElem?_eq_some_iff.1 h).1).trans h⟩

/-- What readError hands back. -/
def Out (w : World) (inner : Value) (e : Ending) (w' : World) : Prop := ∃ o, e = .returned (.iface 42 (.pointer (some ⟨o, 0, none⟩))) ∧ w.heap.size ≤ o ∧ Below w.heap.size w w' ∧ Wraps w' o inner

set_option maxRecDepth 100000 in
set_option maxHeartbeats 400000 in
theorem read_end (F : Interp) (e m e0 e1 : Addr) (w : World) (hF : F.answers w.tape) (hS : Sent w m e0 e1) (he : e = e0 ∨ e = e1) :
    Calls Tryf.prog 7 #[.iface 38 (.pointer (some e))] w (Out w (.iface 38 (.pointer (some m)))) := by
  obtain ⟨gm, g0, g1, ⟨s, sm⟩, pm, p0, p1, n0, n1, n01⟩ := hS
  have HF := mkHid hF
  clear hF
  rcases he with rfl | rfl
  · have hq := eqE_same e w
    clear pm p0 p1 n0 n1 n01
    go_enter Tryf.func7, Tryf.ntmps7
    go_wp2_with (first
      | (go_at_call 14; go_in)
      | (go_at_call 17; refine (errorf_end F m s w.heap.size _ ?_ ?_ ?_).mono ?_; (· exact HF.out); (· go_simp); (· exact cell?_alloc_old _ sm); rintro e w' ⟨t, rfl, rfl⟩))
    go_ret
    refine ⟨_, rfl, ?_, ?_, ⟨t, ?_⟩⟩
    · simp
    · exact (((Below.refl _ _).alloc (Nat.le_refl _) _).alloc (by simp) _).drew
    · exact heap_alloc2_new w _ _
  · have hq := eqE_same e w
    have hq0 := eqE_other (w := w) (a := e) (b := e0) (fun h => n01 h.symm) p1 p0
    clear pm p0 p1 n0 n1 n01
    go_enter Tryf.func7, Tryf.ntmps7
    go_wp2_with (first
      | (go_at_call 14; go_in)
      | (go_at_call 17; refine (errorf_end F m s w.heap.size _ ?_ ?_ ?_).mono ?_; (· exact HF.out); (· go_simp); (· exact cell?_alloc_old _ sm); rintro e w' ⟨t, rfl, rfl⟩))
    go_ret
    refine ⟨_, rfl, ?_, ?_, ⟨t, ?_⟩⟩
    · simp
    · exact (((Below.refl _ _).alloc (Nat.le_refl _) _).alloc (by simp) _).drew
    · exact heap_alloc2_new w _ _

set_option maxRecDepth 100000 in
set_option maxHeartbeats 400000 in
theorem read_plain (F : Interp) (c m e0 e1 : Addr) (w : World) (hF : F.answers w.tape) (hS : Sent w m e0 e1) (h0 : c ≠ e0) (h1 : c ≠ e1) (pc : Plain w c) (hs : ∃ s, w.cell? c = some (.string s)) :
    Calls Tryf.prog 7 #[.iface 38 (.pointer (some c))] w (Out w (.iface 38 (.pointer (some c)))) := by
  obtain ⟨gm, g0, g1, _, pm, p0, p1, n0, n1, n01⟩ := hS
  obtain ⟨s, sc⟩ := hs
  have HF := mkHid hF
  have hq0 := eqE_other (w := w) h0 pc p0
  have hq1 := eqE_other (w := w) h1 pc p1
  clear hF pm p0 p1 n0 n1 n01 gm h0 h1 pc
  go_enter Tryf.func7, Tryf.ntmps7
  go_wp2_with (first
    | (go_at_call 14; go_in)
    | (go_at_call 17; refine (errorf_readE F c s w.heap.size _ ?_ ?_ ?_).mono ?_; (· exact HF.out); (· go_simp); (· exact cell?_alloc_old _ sc); rintro e w' ⟨t, rfl, rfl⟩))
  go_ret
  refine ⟨_, rfl, ?_, ?_, ⟨t, ?_⟩⟩
  · simp
  · exact (((Below.refl _ _).alloc (Nat.le_refl _) _).alloc (by simp) _).drew
  · exact heap_alloc2_new w _ _

set_option maxRecDepth 100000 in
set_option maxHeartbeats 400000 in
theorem read_wrap (F : Interp) (o : Nat) (inner : Value) (m e0 e1 : Addr) (w : World) (hF : F.answers w.tape) (hS : Sent w m e0 e1) (hw : Wraps w o inner) :
    Calls Tryf.prog 7 #[.iface 42 (.pointer (some ⟨o, 0, none⟩))] w (Out w (.iface 42 (.pointer (some ⟨o, 0, none⟩)))) := by
  obtain ⟨gm, g0, g1, _, pm, p0, p1, n0, n1, n01⟩ := hS
  obtain ⟨s, sc⟩ := hw.text
  have HF := mkHid hF
  have hq0 := eqWE ⟨o, 0, none⟩ e0 w
  have hq1 := eqWE ⟨o, 0, none⟩ e1 w
  clear hF pm p0 p1 n0 n1 n01 gm hw
  go_enter Tryf.func7, Tryf.ntmps7
  go_wp2_with (first
    | (go_at_call 14; go_in)
    | (go_at_call 17; refine (errorf_readW F ⟨o, 0, none⟩ s w.heap.size _ ?_ ?_ ?_).mono ?_; (· exact HF.out); (· go_simp); (· exact cell?_alloc_old _ sc); rintro e w' ⟨t, rfl, rfl⟩))
  go_ret
  refine ⟨_, rfl, ?_, ?_, ⟨t, ?_⟩⟩
  · simp
  · exact (((Below.refl _ _).alloc (Nat.le_refl _) _).alloc (by simp) _).drew
  · exact heap_alloc2_new w _ _

set_option maxRecDepth 100000 in
set_option maxHeartbeats 400000 in
theorem cause0 (s : ByteArray) (v : Value) (w : World) (g : w.cell? ⟨1, 0, none⟩ = some v) : Calls Tryf.prog 6 #[.int .u8 0, .string s] w fun e w' => e = .returned v ∧ w = w' := by
  go_enter Tryf.func6, Tryf.ntmps6
  go_wp2
  go_ret
  exact ⟨rfl, rfl⟩
set_option maxRecDepth 100000 in
set_option maxHeartbeats 400000 in
theorem cause1 (s : ByteArray) (v : Value) (w : World) (g : w.cell? ⟨2, 0, none⟩ = some v) : Calls Tryf.prog 6 #[.int .u8 1, .string s] w fun e w' => e = .returned v ∧ w = w' := by
  go_enter Tryf.func6, Tryf.ntmps6
  go_wp2
  go_ret
  exact ⟨rfl, rfl⟩
set_option maxRecDepth 100000 in
set_option maxHeartbeats 400000 in
theorem cause2 (k : Int) (s : ByteArray) (w : World) (h0 : (k == 0) = false) (h1 : (k == 1) = false) : Calls Tryf.prog 6 #[.int .u8 k, .string s] w fun e w' => e = .returned (.iface 38 (.pointer (some ⟨w.heap.size, 0, none⟩))) ∧ w.alloc (.cells #[.string s] 40) = w' := by
  go_enter Tryf.func6, Tryf.ntmps6
  go_wp2
  go_ret
  exact ⟨rfl, rfl⟩

set_option maxRecDepth 100000 in
set_option maxHeartbeats 400000 in
theorem is9 {x y : Value} {b : Bool} {w : World} (h : Calls Tryf.prog 15 #[x, y] w fun e w' => e = .returned (.bool b) ∧ w' = w) : Calls Tryf.prog 9 #[x, y] w fun e w' => e = .returned (.bool b) ∧ w = w' := by
  have H := mkHid h
  clear h
  go_enter Tryf.func9, Tryf.ntmps9
  go_wp2_with (go_at_call 15; refine H.out.mono ?_; rintro e w' ⟨rfl, rfl⟩)
  go_ret
  exact ⟨rfl, rfl⟩
set_option maxRecDepth 100000 in
set_option maxHeartbeats 400000 in
theorem is8 {x y : Value} {b : Bool} {w : World} (g : w.cell? ⟨0, 0, none⟩ = some y) (h : Calls Tryf.prog 15 #[x, y] w fun e w' => e = .returned (.bool b) ∧ w' = w) : Calls Tryf.prog 8 #[x] w fun e w' => e = .returned (.bool b) ∧ w = w' := by
  have H := mkHid h
  clear h
  go_enter Tryf.func8, Tryf.ntmps8
  go_wp2_with (go_at_call 15; refine H.out.mono ?_; rintro e w' ⟨rfl, rfl⟩)
  go_ret
  exact ⟨rfl, rfl⟩
set_option maxRecDepth 100000 in
set_option maxHeartbeats 400000 in
theorem get10 {v : Value} {w : World} (g : w.cell? ⟨1, 0, none⟩ = some v) : Calls Tryf.prog 10 #[] w fun e w' => e = .returned v ∧ w = w' := by
  go_enter Tryf.func10, Tryf.ntmps10
  go_wp2
  go_ret
  exact ⟨rfl, rfl⟩
set_option maxRecDepth 100000 in
set_option maxHeartbeats 400000 in
theorem get11 {v : Value} {w : World} (g : w.cell? ⟨2, 0, none⟩ = some v) : Calls Tryf.prog 11 #[] w fun e w' => e = .returned v ∧ w = w' := by
  go_enter Tryf.func11, Tryf.ntmps11
  go_wp2
  go_ret
  exact ⟨rfl, rfl⟩
end Go.Proofs.Qxb6616701aFmt
