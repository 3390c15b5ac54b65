import Derived.Test.Qxb6616658aFmtWre
import Derived.Laws.IdiomCopy
namespace Go.Proofs.Qxb6616658aFmt
open Go.RowKit Go.Extern.Stop Go.Stop Go.Extern

set_option maxRecDepth 100000 in
set_option maxHeartbeats 400000 in
theorem write_nil (b : Nat) (bs : List Value) (w : World) (h : Lib.IsBuffer 71 5 b b bs w) (hle : bs.length ≤ 100) :
    Calls Tryf.prog 65 #[.pointer (some ⟨b, 0, none⟩), .slice none 0 0] w fun e w' => e = .returned (.tuple #[.int .i64 0, .nilIface]) ∧ Lib.IsBuffer 71 5 b b bs w' ∧ Below b w w' := by
  obtain ⟨_, v, lr, hb, ho, hne⟩ := h
  have HO := mkHid ho
  have hcp : ∀ (w : World) (d : Option Addr) (c : Nat), (Builtin.copy_ #[22, 22] 3 #[.slice d 0 c, .slice none 0 0]).run Tryf.prog w = .ok (.int .i64 0) w := fun w d c => run_copy_none (P := Tryf.prog) w 22 22 3 5 d none 0 c 0 0 Tryf.underlying22 (by kernel_rfl) rfl
  rcases ho.2 with ⟨rfl, h0⟩ | ⟨g, cap, cur, rfl, hbg, hgc, hnc, hcm, hcs, _⟩
  · have c0 : w.cell? ⟨b, 0, none⟩ = some (.slice none 0 0) := by rw [cell_of_row _ _ _ _ _ _ hb]; rfl
    have c2 : w.cell? ⟨b, 2, none⟩ = some (.int .i8 lr) := by rw [cell_of_row _ _ _ _ _ _ hb]; rfl
    have f0 : w.frozen? ⟨b, 0, none⟩ = false := frozen_of_row _ _ _ _ _ hb
    have f2 : w.frozen? ⟨b, 2, none⟩ = false := frozen_of_row _ _ _ _ _ hb
    have HH := mkHid hb
    have hbs : b < w.heap.size := (Array.getElem?_eq_some_iff.1 hb).1
    clear ho hb
    go_enter Tryf.func65, Tryf.ntmps65
    go_wp2
    go_ret2
    refine ⟨rfl, ⟨Nat.le_refl _, .slice none 0 0, 0, ?_, ?_, hne⟩, ?_⟩
    · exact (heap_setCell_same _ b 0 _ 71 _ (heap_setCell_same _ b 2 _ 71 _ HH.out)).trans rfl
    · exact ownsRow_setCell_other (a := ⟨b, 0, none⟩) (ownsRow_setCell_other (a := ⟨b, 2, none⟩) HO.out hne _) hne _
    · exact ((Below.refl b w).setCell (p := ⟨b, 2, none⟩) (Nat.le_refl _) _).setCell (p := ⟨b, 0, none⟩) (Nat.le_refl _) _
  have hgb : g ≠ b := fun e => hne (by rw [e]; rfl)
  have c0 : w.cell? ⟨b, 0, none⟩ = some (.slice (some ⟨g, 0, none⟩) bs.length cap) := by rw [cell_of_row _ _ _ _ _ _ hb]; rfl
  have c2 : w.cell? ⟨b, 2, none⟩ = some (.int .i8 lr) := by rw [cell_of_row _ _ _ _ _ _ hb]; rfl
  have f0 : w.frozen? ⟨b, 0, none⟩ = false := frozen_of_row _ _ _ _ _ hb
  have f2 : w.frozen? ⟨b, 2, none⟩ = false := frozen_of_row _ _ _ _ _ hb
  have HH := mkHid hb
  have hbs : b < w.heap.size := (Array.getElem?_eq_some_iff.1 hb).1
  have hi1 : (0 : Int) ≤ (cap : Int) - (bs.length : Int) := by omega
  unfold maxLen at hcm
  clear ho hb hgc hcs
  generalize hnn : bs.length = n at *
  go_enter Tryf.func65, Tryf.ntmps65
  rcases (show cap = n ∨ n < cap by omega) with rfl | hcn
  all_goals
    go_wp2
    go_ret2
    refine ⟨rfl, ⟨Nat.le_refl _, .slice (some ⟨g, 0, none⟩) _ _, 0, ?_, ?_, hne⟩, ?_⟩
    · exact (heap_setCell_same _ b 0 _ 71 _ (heap_setCell_same _ b 2 _ 71 _ HH.out)).trans rfl
    · rw [hnn]; exact ownsRow_setCell_other (a := ⟨b, 0, none⟩) (ownsRow_setCell_other (a := ⟨b, 2, none⟩) HO.out hne _) hne _
    · exact ((Below.refl b w).setCell (p := ⟨b, 2, none⟩) (Nat.le_refl _) _).setCell (p := ⟨b, 0, none⟩) (Nat.le_refl _) _

theorem data_nil (T b : Nat) (w : World) : DataIn T b none 0 [] w := by
  intro bs w5 hB hL h1 hlen
  rw [List.append_nil]
  exact write_nil b bs w5 hB hlen
end Go.Proofs.Qxb6616658aFmt
