import Derived.Test.Qxb6616658aFmtRows
import Derived.WalkKit
import Derived.WalkSpells
import Derived.WalkLawsBesides
import Derived.Laws.Rows
import Derived.Laws.Tables
import Derived.Laws.CopyRow

import Derived.BigQuiet
namespace Go.Proofs.Qxb6616658aFmt
open Go.RowKit

def rawL (x : Nat → Int) : List Value := (List.range 24).map fun j => Value.int .u8 (x j)
def rawA (x : Nat → Int) : Array Value := (rawL x).toArray
def hdrA (x : Nat → Int) (ord : Value) (nn : Bool) : Array Value := (rawL x ++ [ord, .bool nn]).toArray

theorem rawA_size (x : Nat → Int) : (rawA x).size = 24 := by simp [rawA, rawL]
theorem hdrA_size (x : Nat → Int) (ord : Value) (nn : Bool) : (hdrA x ord nn).size = 26 := by simp [hdrA, rawL]
theorem rawA_get (x : Nat → Int) (j : Nat) (h : j < 24) : (rawA x)[j]? = some (.int .u8 (x j)) := by
  simp [rawA, rawL, List.getElem?_range h]
theorem hdrA_get (x : Nat → Int) (ord : Value) (nn : Bool) (j : Nat) (h : j < 24) : (hdrA x ord nn)[j]? = some (.int .u8 (x j)) := by
  have : j < ((List.range 24).map fun j => Value.int .u8 (x j)).length := by simpa using h
  simp [hdrA, rawL, List.getElem?_append_left this, List.getElem?_range h]
theorem hdrA_ord (x : Nat → Int) (ord : Value) (nn : Bool) : (hdrA x ord nn)[24]? = some ord := by
  simp [hdrA, rawL]
theorem hdrA_nn (x : Nat → Int) (ord : Value) (nn : Bool) : (hdrA x ord nn)[25]? = some (.bool nn) := by
  simp [hdrA, rawL]
theorem hdrA_raw (x : Nat → Int) (ord : Value) (nn : Bool) : (hdrA x ord nn).extract 0 24 = rawA x := by
  simp [hdrA, rawA, rawL]
theorem rawA_one (x : Nat → Int) : (rawA x).all (·.oneCell') = true := by
  simp only [rawA, rawL, List.all_toArray, List.all_map, List.all_eq_true]
  intro j _; rfl
theorem hdrA_one (x : Nat → Int) (ord : Value) (nn : Bool) (h : ord.oneCell' = true) : (hdrA x ord nn).all (·.oneCell') = true := by
  simp only [hdrA, rawL, List.all_toArray, List.all_append, List.all_map, Bool.and_eq_true, List.all_eq_true]
  refine ⟨fun j _ => rfl, ?_⟩
  intro v hv
  simp at hv
  rcases hv with rfl | rfl
  · exact h
  · rfl

/-- A row loaded out of the middle of a block. -/
theorem wp_load_sub {P : Program} {o : Oper} {a : Act} {w : World} {K : Act → World → Prop} {Q : Exit → Act → World → Prop} (ty : TypeId) (x : Operand) (ho : o.op = .load ty x)
    (g off n : Nat) (hx : a.eval x = .pointer (some ⟨g, off, none⟩)) (t : TypeId) (cs : Array Value) (fr : Nat × Nat) (d : TypeDesc) (hg : w.heap[g]? = some (.cells cs t fr))
    (hu : P.underlying ty = some d) (hd : (match d with | .struct _ | .array _ _ => true | _ => false) = true) (hi : (P.info? ty).map (·.size) = some n) (hn : off + n ≤ cs.size)
    (h : K (a.put o.dst (.agg (cs.extract off (off + n)))) w) : o.wp P a w K Q := by
  have hl : (loadCells ⟨g, off, none⟩ (cs.extract off (off + n)).toList.length).run P w = .ok (cs.extract off (off + n)).toList.toArray w :=
    run_loadCells_list (P := P) w ⟨g, off, none⟩ (cs.extract off (off + n)).toList (fun j v hv => by
      have hadd : (⟨g, off, none⟩ : Addr).add j = ⟨g, off + j, none⟩ := by unfold Addr.add; split <;> simp_all
      rw [hadd, cell_of_row w g (off + j) cs t fr hg]
      have hj : j < n := by
        have := (List.getElem?_eq_some_iff.1 hv).1
        simp at this; omega
      simp only [Array.toList_extract, List.extract_eq_drop_take', List.getElem?_take, List.getElem?_drop] at hv
      rw [if_pos (by omega)] at hv
      simpa using hv)
  have hlen : (cs.extract off (off + n)).toList.length = n := by simp; omega
  rw [hlen, Array.toArray_toList] at hl
  cases hq : P.info? ty with
  | none => simp [hq] at hi
  | some i =>
    have hs : i.size = n := by simpa [hq] using hi
    have hagg : (isAgg ty).run P w = .ok true w := by
      unfold isAgg
      rw [Sem.run_bind, run_underlying hu w]
      cases d <;> simp_all
    have hlv : (loadVar ty ⟨g, off, none⟩).run P w = .ok (.agg (cs.extract off (off + n))) w := by
      simp [loadVar, Sem.run_bind, hagg, sizeOf, typeInfo, hq, hs, hl]
    unfold Oper.wp execOp
    simp only [ho, hx, Instr.loadAt, Instr.sureAddr, Sem.run_bind, Sem.run_pure, Result.andThen_ok, hlv]
    exact h

theorem wpList_load_sub {P : Program} {ops : Array Oper} {rest : List Oper} {o : Oper} {a : Act} {w : World} {Q : Exit → Act → World → Prop} (hgd : o.guard = none) (ty : TypeId) (x : Operand) (ho : o.op = .load ty x)
    (g off n : Nat) (hx : a.eval x = .pointer (some ⟨g, off, none⟩)) (t : TypeId) (cs : Array Value) (fr : Nat × Nat) (d : TypeDesc) (hg : w.heap[g]? = some (.cells cs t fr))
    (hu : P.underlying ty = some d) (hd : (match d with | .struct _ | .array _ _ => true | _ => false) = true) (hi : (P.info? ty).map (·.size) = some n) (hn : off + n ≤ cs.size)
    (h : wpList P ops Q rest (a.put o.dst (.agg (cs.extract off (off + n)))) w) : wpList P ops Q (o :: rest) a w :=
  wpList_plain hgd fun _ hK => wp_load_sub ty x ho g off n hx t cs fr d hg hu hd hi hn (hK _ _ h)

theorem setRow_alloc_top (w : World) (old cs : Array Value) (t : TypeId) : (w.alloc (.cells old t)).setRow w.heap.size cs = w.alloc (.cells cs t) := by
  have h : ((w.alloc (.cells old t)).setRow w.heap.size cs).heap = (w.alloc (.cells cs t)).heap := by
    apply Array.ext_getElem?
    intro i
    by_cases hi : i = w.heap.size
    · subst hi
      rw [setRow_heap _ _ old cs t (0, 0) (heap_alloc_new w _), heap_alloc_new]
    · rw [setRow_other _ _ _ _ hi]
      show (w.heap.push _)[i]? = (w.heap.push _)[i]?
      rw [Array.getElem?_push, Array.getElem?_push, if_neg hi, if_neg hi]
  show ({ (w.alloc (.cells old t)) with heap := ((w.alloc (.cells old t)).setRow w.heap.size cs).heap } : World) = _
  rw [h]
  rfl

theorem setRow_alloc_at (w : World) (old cs : Array Value) (t : TypeId) (n : Nat) (h : n = w.heap.size) : (w.alloc (.cells old t)).setRow n cs = w.alloc (.cells cs t) := by
  subst h; exact setRow_alloc_top w old cs t
theorem setRow_alloc_past (w : World) (o : Obj) (cs : Array Value) (n : Nat) (h : n < w.heap.size) : (w.alloc o).setRow n cs = (w.setRow n cs).alloc o := by
  have e : ((w.alloc o).setRow n cs).heap = ((w.setRow n cs).alloc o).heap := by
    apply Array.ext_getElem?
    intro i
    show ((w.heap.push o).modify n _)[i]? = ((w.setRow n cs).heap.push o)[i]?
    rw [Array.getElem?_push, setRow_size, Array.getElem?_modify, Array.getElem?_push]
    by_cases hi : n = i
    · subst hi
      have hne : ¬ n = w.heap.size := by omega
      rw [if_pos rfl, if_neg hne, if_neg hne]
      simp [World.setRow, Array.getElem?_modify]
    · rw [if_neg hi]
      by_cases h2 : i = w.heap.size
      · rw [if_pos h2, if_pos h2]
      · rw [if_neg h2, if_neg h2, setRow_other _ _ _ _ (fun e => hi e.symm)]
  show ({ (w.alloc o) with heap := ((w.alloc o).setRow n cs).heap } : World) = _
  rw [e]
  rfl
theorem setRow_drew (w : World) (cs : Array Value) (n : Nat) : w.drew.setRow n cs = (w.setRow n cs).drew := rfl

/-- A whole row stored into the newest block. -/
theorem wpList_store_top {P : Program} {ops : Array Oper} {rest : List Oper} {o : Oper} {a : Act} {w : World} {Q : Exit → Act → World → Prop} (hgd : o.guard = none) (ty : TypeId) (x y : Operand) (ho : o.op = .store ty x y)
    (g : Nat) (cells : Array Value) (hx : a.eval x = .pointer (some ⟨g, 0, none⟩)) (hy : a.eval y = .agg cells)
    (t : TypeId) (old : Array Value) (hg : g = w.heap.size) (hi : (P.info? ty).map (·.size) = some cells.size)
    (hold : old.size = cells.size) (h1 : cells.all (·.oneCell') = true)
    (h : wpList P ops Q rest (a.put o.dst undef) (w.alloc (.cells cells t))) : wpList P ops Q (o :: rest) a (w.alloc (.cells old t)) :=
  wpList_store_row hgd ty x y ho g cells hx hy t old (by subst hg; exact heap_alloc_new w _) hi hold h1 (by rw [setRow_alloc_at w old cells t g hg]; exact h)

theorem Tryf.info33 : (Tryf.prog.info? 33).map (·.size) = some 24 := by kernel_rfl
theorem Tryf.info37 : (Tryf.prog.info? 37).map (·.size) = some 26 := by kernel_rfl
theorem Tryf.info66 : (Tryf.prog.info? 66).map (·.size) = some 45 := by kernel_rfl

end Go.Proofs.Qxb6616658aFmt
