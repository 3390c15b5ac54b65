import Derived.Test.Qxb6616658aFmtNew
import Derived.Test.Qxb6616658aFmtParA
import Derived.Test.Qxb6616658aFmtParB
import Derived.Test.Qxb6616658aFmtParD
import Derived.Test.Qxb6616658aFmtParE
import Derived.Test.Qxb6616658aFmtLoop
namespace Go.Proofs.Qxb6616658aFmt
open Go.RowKit Go.Extern.Stop Go.Stop Go.Extern

set_option maxRecDepth 100000 in
set_option maxHeartbeats 400000 in
theorem readerof {Q : Value → Value → World → Prop} (s : Option Addr) (n c : Nat) (w : World)
    (h : Calls Tryf.prog 29 #[.iface 59 (.pointer (some ⟨w.heap.size, 0, none⟩))] (w.alloc (.cells #[.slice s n c, .int .i64 0, .int .i64 (-1)] 89)) fun e w' => ∃ v1 v2, e = .returned (.tuple #[v1, v2]) ∧ Q v1 v2 w') :
    Calls Tryf.prog 10 #[.slice s n c] w fun e w' => ∃ v1 v2, e = .returned (.tuple #[v1, v2]) ∧ Q v1 v2 w' := by
  have H := mkHid h
  clear h
  go_enter Tryf.func10, Tryf.ntmps10
  go_wp2_with (first | (go_at_call 30; go_in) | (go_at_call 29; refine H.out.mono ?_; rintro e w' ⟨v1, v2, rfl, hq⟩))
  go_ret2
  exact ⟨_, _, rfl, hq⟩

/-- What the two listed sentinels give. -/
structure Sent (w : World) (a0 a1 : Addr) : Prop where
  e0 : w.cell? ⟨0, 0, none⟩ = some (.iface 96 (.pointer (some a0)))
  e1 : w.cell? ⟨1, 0, none⟩ = some (.iface 96 (.pointer (some a1)))
  ne : a1 ≠ a0
  b0 : ∃ k t, w.heap[a0.block]? = some (.cells k t (0, 0))
  b1 : ∃ k t, w.heap[a1.block]? = some (.cells k t (0, 0))

theorem Sent.below {w w' : World} {a0 a1 : Addr} (h : Sent w a0 a1) (hb : Below w.heap.size w w') : Sent w' a0 a1 := by
  obtain ⟨e0, e1, ne, ⟨k0, t0, b0⟩, ⟨k1, t1, b1⟩⟩ := h
  exact ⟨(hb.cell (block_lt_of_cell e0)).trans e0, (hb.cell (block_lt_of_cell e1)).trans e1, ne, ⟨k0, t0, (hb.block _ (Array.getElem?_eq_some_iff.1 b0).1).trans b0⟩, ⟨k1, t1, (hb.block _ (Array.getElem?_eq_some_iff.1 b1).1).trans b1⟩⟩

/-- The reader of what lies in block g is refused. -/
def Refused (s : Option Addr) (n : Nat) (w : World) : Prop :=
  Calls Tryf.prog 10 #[.slice s n n] w fun e w' => ∃ v1 v2, e = .returned (.tuple #[v1, v2]) ∧ (v1 = .pointer none ∧ ∃ a, v2 = .iface 96 (.pointer (some a)) ∧ Below w.heap.size w w')

theorem refused_of {s : Option Addr} {n : Nat} {w : World}
    (h : Calls Tryf.prog 29 #[.iface 59 (.pointer (some ⟨w.heap.size, 0, none⟩))] (w.alloc (.cells #[.slice s n n, .int .i64 0, .int .i64 (-1)] 89)) fun e w' => (∃ a, e = .returned (.tuple #[.pointer none, .iface 96 (.pointer (some a))])) ∧ Below w.heap.size (w.alloc (.cells #[.slice s n n, .int .i64 0, .int .i64 (-1)] 89)) w') : Refused s n w :=
  readerof s n n w (h.mono fun _ _ ⟨⟨a, he⟩, hb⟩ => ⟨_, _, he, rfl, a, rfl, ((Below.refl _ w).alloc (Nat.le_refl _) _).trans hb⟩)

theorem refused_empty (s : Option Addr) (w : World) (a0 a1 : Addr) (hS : Sent w a0 a1) : Refused s 0 w :=
  refused_of (newreader_eof w.heap.size s 0 a0 _ (by simp) (by simp) (by rw [cell_of_row _ _ _ _ _ _ (heap_alloc_new w _)]; rfl) (by rw [cell_of_row _ _ _ _ _ _ (heap_alloc_new w _)]; rfl) (cell?_alloc_old _ hS.e0))

theorem refused_short (x : Nat → Int) (g n : Nat) (w : World) (a0 a1 : Addr) (hS : Sent w a0 a1) (hn0 : 0 < n) (hn : n < 24) (hg : g < w.heap.size) (hc : ∀ j, j < n → w.cell? ⟨g, j, none⟩ = some (.int .u8 (x j))) : Refused (some ⟨g, 0, none⟩) n w := by
  obtain ⟨k0, t0, b0⟩ := hS.b0
  obtain ⟨k1, t1, b1⟩ := hS.b1
  exact refused_of (newreader_short x w.heap.size g n a0 a1 k0 k1 t0 t1 _ hn0 hn hg (block_lt_of_cell hS.e1) (heap_alloc_new w _) (fun j hj => cell?_alloc_old _ (hc j hj)) (cell?_alloc_old _ hS.e0) (cell?_alloc_old _ hS.e1) hS.ne
    (heap_up b0) (heap_up b1) (Array.getElem?_eq_some_iff.1 b0).1 (Array.getElem?_eq_some_iff.1 b1).1)

theorem refused_parse (F : Interp) (x : Nat → Int) (g n : Nat) (w : World) (hF : F.answers w.tape) (hn : 24 ≤ n) (hn2 : n ≤ 1048576) (hg : g < w.heap.size) (hc : ∀ j, j < n → w.cell? ⟨g, j, none⟩ = some (.int .u8 (x j)))
    (hp : ∀ w, F.answers w.tape → Calls Tryf.prog 37 #[.agg (rawA x)] w fun e w' => (∃ a, e = .returned (.tuple #[.agg hdrZ, .iface 96 (.pointer (some a))])) ∧ Below w.heap.size w w') : Refused (some ⟨g, 0, none⟩) n w :=
  refused_of (newreader_err F x w.heap.size g n _ hF hn hn2 hg (heap_alloc_new w _) (fun j hj => cell?_alloc_old _ (hc j hj)) hp)

/-- The reader of what lies in block g is made, and holds the header. -/
def Made (x : Nat → Int) (ord : Value) (nn : Bool) (s : Option Addr) (n : Nat) (w : World) : Prop :=
  Calls Tryf.prog 10 #[.slice s n n] w fun e w' => ∃ v1 v2, e = .returned (.tuple #[v1, v2]) ∧ (v2 = .nilIface ∧ ∃ N src, v1 = .pointer (some ⟨N, 0, none⟩) ∧ Below w.heap.size w w' ∧ w.heap.size ≤ N ∧
    w'.heap[N]? = some (.cells (rdrA src x ord nn) 66 (0, 0)))

theorem made_parse (F : Interp) (x : Nat → Int) (ord : Value) (nn : Bool) (g n : Nat) (w : World) (hF : F.answers w.tape) (hor : ord.oneCell' = true) (hn : 24 ≤ n) (hn2 : n ≤ 1048576) (hg : g < w.heap.size) (hc : ∀ j, j < n → w.cell? ⟨g, j, none⟩ = some (.int .u8 (x j)))
    (hp : ∀ w, F.answers w.tape → Calls Tryf.prog 37 #[.agg (rawA x)] w fun e w' => e = .returned (.tuple #[.agg (hdrA x ord nn), .nilIface]) ∧ Below w.heap.size w w') : Made x ord nn (some ⟨g, 0, none⟩) n w :=
  readerof _ _ _ w ((newreader_ok F x ord nn w.heap.size g n (w.alloc (.cells #[.slice (some ⟨g, 0, none⟩) n n, .int .i64 0, .int .i64 (-1)] 89)) hF hor hn hn2 hg (heap_alloc_new w _) (fun j hj => cell?_alloc_old _ (hc j hj)) hp).mono
    fun _ _ ⟨N, he, hb, hN, hh⟩ => ⟨_, _, he, rfl, N, _, rfl, ((Below.refl _ w).alloc (Nat.le_refl _) _).trans hb, Nat.le_of_lt hN, hh⟩)
end Go.Proofs.Qxb6616658aFmt
