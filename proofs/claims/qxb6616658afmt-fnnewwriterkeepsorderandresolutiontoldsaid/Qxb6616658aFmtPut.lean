import Derived.Test.Qxb6616658aFmtF5
namespace Go.Proofs.Qxb6616658aFmt
open Go.RowKit Go.Extern.Stop Go.Stop Go.Extern

/-- The four bytes of a word, from the low end. -/
def wb (v : Int) (i : Nat) : Int := if i = 0 then v % 256 else if i = 1 then v / 256 % 256 else if i = 2 then v / 65536 % 256 else v / 16777216
def wordF (big : Bool) (v : Int) : Nat → Int := fun i => if big then wb v (3 - i) else wb v i
def upd (h : Nat → Int) (o : Nat) (f : Nat → Int) : Nat → Int := fun j => if j = o then f 0 else if j = o + 1 then f 1 else if j = o + 2 then f 2 else if j = o + 3 then f 3 else h j
def tailL (h : Nat → Int) : List Value := (List.range 16).map fun j => Value.int .u8 (h j)
def preL (src : Value) (x : Nat → Int) (ord : Value) (nn : Bool) : List Value := [src] ++ (rawL x ++ [ord, .bool nn])
def wrB (src : Value) (x : Nat → Int) (ord : Value) (nn : Bool) (h : Nat → Int) : Array Value := (preL src x ord nn ++ tailL h).toArray
theorem wrA_eq (src : Value) (x : Nat → Int) (ord : Value) (nn : Bool) : wrA src x ord nn = wrB src x ord nn (fun _ => 0) := by kernel_rfl
theorem preL_len (src : Value) (x : Nat → Int) (ord : Value) (nn : Bool) : (preL src x ord nn).length = 27 := by simp [preL, rawL]
theorem tailL_len (h : Nat → Int) : (tailL h).length = 16 := by simp [tailL]
theorem wrB_buf (src : Value) (x : Nat → Int) (ord : Value) (nn : Bool) (h : Nat → Int) (j : Nat) (hj : j < 16) : (wrB src x ord nn h)[27 + j]? = some (.int .u8 (h j)) := by
  unfold wrB
  rw [List.getElem?_toArray, List.getElem?_append_right (by rw [preL_len]; omega), preL_len]
  simp [tailL, hj]
theorem wrB_src (src : Value) (x : Nat → Int) (ord : Value) (nn : Bool) (h : Nat → Int) : (wrB src x ord nn h)[0]? = some src := by kernel_rfl
theorem wrB_ord (src : Value) (x : Nat → Int) (ord : Value) (nn : Bool) (h : Nat → Int) : (wrB src x ord nn h)[25]? = some ord := by kernel_rfl
theorem wrB_nn (src : Value) (x : Nat → Int) (ord : Value) (nn : Bool) (h : Nat → Int) : (wrB src x ord nn h)[26]? = some (.bool nn) := by kernel_rfl
theorem tailL_set (h : Nat → Int) (j : Nat) (v : Int) : (tailL h).set j (.int .u8 v) = tailL (fun i => if i = j then v else h i) := by
  apply List.ext_getElem?
  intro i
  rw [List.getElem?_set]
  unfold tailL
  by_cases hi : i < 16
  · by_cases e : j = i
    · subst e; simp [hi]
    · rw [if_neg e]
      simp [List.getElem?_range hi, show ¬ i = j from fun h => e h.symm]
  · have h1 : ((List.range 16).map fun j => Value.int .u8 (h j))[i]? = none := by rw [List.getElem?_eq_none]; simp; omega
    have h2 : ((List.range 16).map fun k => Value.int .u8 (if k = j then v else h k))[i]? = none := by rw [List.getElem?_eq_none]; simp; omega
    rw [h1, h2]
    by_cases e : j = i
    · subst e; simp [hi]
    · rw [if_neg e]
theorem wrB_set (src : Value) (x : Nat → Int) (ord : Value) (nn : Bool) (h : Nat → Int) (j : Nat) (v : Int) : (wrB src x ord nn h).setIfInBounds (27 + j) (.int .u8 v) = wrB src x ord nn (fun i => if i = j then v else h i) := by
  unfold wrB
  rw [List.setIfInBounds_toArray, List.set_append_right _ _ (by rw [preL_len]; omega), preL_len, Nat.add_sub_cancel_left, tailL_set]
theorem wrB_upd (src : Value) (x : Nat → Int) (ord : Value) (nn : Bool) (h : Nat → Int) (o : Nat) (b0 b1 b2 b3 : Int) :
    ((((wrB src x ord nn h).setIfInBounds (27 + o) (.int .u8 b0)).setIfInBounds (27 + o + 1) (.int .u8 b1)).setIfInBounds (27 + o + 2) (.int .u8 b2)).setIfInBounds (27 + o + 3) (.int .u8 b3) =
      wrB src x ord nn (upd h o (fun i => if i = 0 then b0 else if i = 1 then b1 else if i = 2 then b2 else b3)) := by
  rw [wrB_set, show 27 + o + 1 = 27 + (o + 1) from rfl, wrB_set, show 27 + o + 2 = 27 + (o + 2) from rfl, wrB_set, show 27 + o + 3 = 27 + (o + 3) from rfl, wrB_set]
  congr 1
  funext j
  unfold upd
  by_cases a : j = o
  · subst a; simp
  · by_cases b : j = o + 1
    · subst b; simp
    · by_cases c : j = o + 2
      · subst c; simp
      · by_cases d : j = o + 3
        · subst d; simp
        · simp [a, b, c, d]

/-- Four cells of block N written. -/
theorem put_world {w : World} {N t o : Nat} {cs : Array Value} (hN : w.heap[N]? = some (.cells cs t (0, 0))) (b0 b1 b2 b3 : Value) (x : Obj) :
    w.grownBy (((((w.setCell ⟨N, o, none⟩ b0).setCell ⟨N, o + 1, none⟩ b1).setCell ⟨N, o + 2, none⟩ b2).setCell ⟨N, o + 3, none⟩ b3).alloc x) (some N) ∧
    (((((w.setCell ⟨N, o, none⟩ b0).setCell ⟨N, o + 1, none⟩ b1).setCell ⟨N, o + 2, none⟩ b2).setCell ⟨N, o + 3, none⟩ b3).alloc x).heap[N]? =
      some (.cells ((((cs.setIfInBounds o b0).setIfInBounds (o + 1) b1).setIfInBounds (o + 2) b2).setIfInBounds (o + 3) b3) t (0, 0)) := by
  constructor
  · refine ⟨rfl, rfl, rfl, by simp, fun k hk hne => ?_⟩
    have hne' : k ≠ N := fun e => hne (by rw [e])
    refine (Below.heap_alloc _ _ _ (by simpa using hk)).trans ?_
    refine (heap_setCell_other _ _ _ _ hne').trans ((heap_setCell_other _ _ _ _ hne').trans ((heap_setCell_other _ _ _ _ hne').trans (heap_setCell_other _ _ _ _ hne')))
  · refine heap_up (heap_setCell_same _ N _ _ t _ (heap_setCell_same _ N _ _ t _ (heap_setCell_same _ N _ _ t _ (heap_setCell_same _ N _ _ t _ hN))))

set_option maxRecDepth 100000 in
set_option maxHeartbeats 400000 in
theorem put83 (v : Int) (hv0 : 0 ≤ v) (hv1 : v ≤ 4294967295) (src : Value) (x : Nat → Int) (ord : Value) (nn : Bool) (h : Nat → Int) (N o c : Nat) (w : World) (ho : o + 4 ≤ 16)
    (hN : w.heap[N]? = some (.cells (wrB src x ord nn h) 78 (0, 0))) :
    Calls Tryf.prog 83 #[.agg #[], .slice (some ⟨N, 27 + o, none⟩) 4 c, .int .u32 v] w fun e w' => e = .returned (.tuple #[]) ∧ w.grownBy w' (some N) ∧ w'.heap[N]? = some (.cells (wrB src x ord nn (upd h o (wordF false v))) 78 (0, 0)) := by
  have hg : N < w.heap.size := (Array.getElem?_eq_some_iff.1 hN).1
  have c0 : w.cell? ⟨N, 27 + o, none⟩ = some (.int .u8 (h o)) := by rw [cell_of_row _ _ _ _ _ _ hN]; exact wrB_buf _ _ _ _ _ _ (by omega)
  have c1 : w.cell? ⟨N, 27 + o + 1, none⟩ = some (.int .u8 (h (o + 1))) := by rw [cell_of_row _ _ _ _ _ _ hN]; exact wrB_buf _ _ _ _ _ (o + 1) (by omega)
  have c2 : w.cell? ⟨N, 27 + o + 2, none⟩ = some (.int .u8 (h (o + 2))) := by rw [cell_of_row _ _ _ _ _ _ hN]; exact wrB_buf _ _ _ _ _ (o + 2) (by omega)
  have c3 : w.cell? ⟨N, 27 + o + 3, none⟩ = some (.int .u8 (h (o + 3))) := by rw [cell_of_row _ _ _ _ _ _ hN]; exact wrB_buf _ _ _ _ _ (o + 3) (by omega)
  have f : ∀ i, w.frozen? ⟨N, i, none⟩ = false := fun i => frozen_of_row _ _ _ _ _ hN
  have f0 := f (27 + o); have f1 := f (27 + o + 1); have f2 := f (27 + o + 2); have f3 := f (27 + o + 3)
  have HN := mkHid hN
  clear hN f
  generalize ho2 : 27 + o = p at *
  go_enter Tryf.func83, Tryf.ntmps83
  go_wp2
  go_end0
  refine ⟨rfl, ?_⟩
  subst ho2
  have := put_world (o := 27 + o) HN.out (.int .u8 (v % 256)) (.int .u8 (v / 256 % 256)) (.int .u8 (v / 65536 % 256)) (.int .u8 (v / 16777216)) (.cells #[] 100)
  rw [wrB_upd] at this
  exact this

set_option maxRecDepth 100000 in
set_option maxHeartbeats 400000 in
theorem put90 (v : Int) (hv0 : 0 ≤ v) (hv1 : v ≤ 4294967295) (src : Value) (x : Nat → Int) (ord : Value) (nn : Bool) (h : Nat → Int) (N o c : Nat) (w : World) (ho : o + 4 ≤ 16)
    (hN : w.heap[N]? = some (.cells (wrB src x ord nn h) 78 (0, 0))) :
    Calls Tryf.prog 90 #[.agg #[], .slice (some ⟨N, 27 + o, none⟩) 4 c, .int .u32 v] w fun e w' => e = .returned (.tuple #[]) ∧ w.grownBy w' (some N) ∧ w'.heap[N]? = some (.cells (wrB src x ord nn (upd h o (wordF true v))) 78 (0, 0)) := by
  have hg : N < w.heap.size := (Array.getElem?_eq_some_iff.1 hN).1
  have c0 : w.cell? ⟨N, 27 + o, none⟩ = some (.int .u8 (h o)) := by rw [cell_of_row _ _ _ _ _ _ hN]; exact wrB_buf _ _ _ _ _ _ (by omega)
  have c1 : w.cell? ⟨N, 27 + o + 1, none⟩ = some (.int .u8 (h (o + 1))) := by rw [cell_of_row _ _ _ _ _ _ hN]; exact wrB_buf _ _ _ _ _ (o + 1) (by omega)
  have c2 : w.cell? ⟨N, 27 + o + 2, none⟩ = some (.int .u8 (h (o + 2))) := by rw [cell_of_row _ _ _ _ _ _ hN]; exact wrB_buf _ _ _ _ _ (o + 2) (by omega)
  have c3 : w.cell? ⟨N, 27 + o + 3, none⟩ = some (.int .u8 (h (o + 3))) := by rw [cell_of_row _ _ _ _ _ _ hN]; exact wrB_buf _ _ _ _ _ (o + 3) (by omega)
  have f : ∀ i, w.frozen? ⟨N, i, none⟩ = false := fun i => frozen_of_row _ _ _ _ _ hN
  have f0 := f (27 + o); have f1 := f (27 + o + 1); have f2 := f (27 + o + 2); have f3 := f (27 + o + 3)
  have HN := mkHid hN
  clear hN f
  generalize ho2 : 27 + o = p at *
  go_enter Tryf.func90, Tryf.ntmps90
  go_wp2
  go_end0
  refine ⟨rfl, ?_⟩
  subst ho2
  have := put_world (o := 27 + o) HN.out (.int .u8 (v / 16777216)) (.int .u8 (v / 65536 % 256)) (.int .u8 (v / 256 % 256)) (.int .u8 (v % 256)) (.cells #[] 102)
  rw [wrB_upd] at this
  exact this
end Go.Proofs.Qxb6616658aFmt
