import Derived.Test.Qxb6616658aFmtF3
namespace Go.Proofs.Qxb6616658aFmt
open Go.RowKit Go.Extern.Stop Go.Stop Go.Extern

section
variable (x : Nat → Int)
theorem be_micros (h : ∀ j, 0 ≤ x j ∧ x j ≤ 255) : be4 x 0 = 2712847316 ↔ le4 x 0 = 3569595041 := by
  have h0 := h 0; have h1 := h 1; have h2 := h 2; have h3 := h 3
  unfold be4 le4; simp only [Nat.zero_add]; omega
theorem be_nanos (h : ∀ j, 0 ≤ x j ∧ x j ≤ 255) : be4 x 0 = 2712812621 ↔ le4 x 0 = 1295823521 := by
  have h0 := h 0; have h1 := h 1; have h2 := h 2; have h3 := h 3
  unfold be4 le4; simp only [Nat.zero_add]; omega
end

theorem link_le' (x : Nat → Int) (nn : Bool) (w : World) (hx : ∀ j, 0 ≤ x j ∧ x j ≤ 255) :
    Calls Tryf.prog 15 #[.agg (hdrA x (.iface 100 (.agg #[])) nn)] w fun e w' => e = .returned (.int .u32 (bits .and .u32 (le4 x 20) 67108863)) ∧ Below w.heap.size w w' := link_le x nn w hx
theorem link_be' (x : Nat → Int) (nn : Bool) (w : World) (hx : ∀ j, 0 ≤ x j ∧ x j ≤ 255) :
    Calls Tryf.prog 15 #[.agg (hdrA x (.iface 102 (.agg #[])) nn)] w fun e w' => e = .returned (.int .u32 (bits .and .u32 (be4 x 20) 67108863)) ∧ Below w.heap.size w w' := by
  have e : be4 x 20 = x 23 + x 22 * 256 + x 21 * 65536 + x 20 * 16777216 := by
    show x 20 * 16777216 + x 21 * 65536 + x 22 * 256 + x 23 = _
    omega
  rw [e]; exact link_be x nn w hx

set_option maxRecDepth 100000 in
set_option maxHeartbeats 400000 in
theorem clone_zero (x : Nat → Int) (a : Addr) (c : Nat) (w : World) :
    Calls Tryf.prog 8 #[.slice (some a) 0 c] w fun e w' => e = .returned (.slice (some ⟨w.heap.size, 0, none⟩) 0 0) ∧ w.alloc (.cells (clA x 0 0) 5) = w' := by
  have hmk : ∀ w, (Instr.makeSlice 22 (.int .i64 0) (.int .i64 0)).run Tryf.prog w = .ok (.slice (some ⟨w.heap.size, 0, none⟩) 0 0) (w.alloc (.cells (madeCells #[.int .u8 0] 0) 5)) := run_make_row' (P := Tryf.prog) 22 5 (.int .u8 0) 1 Tryf.underlying22 Tryf.info5 rfl .i64 .i64 0 (by omega) (by omega)
  have hs := Lib.run_eql_slice_nil (P := Tryf.prog)
  go_enter Tryf.func8, Tryf.ntmps8
  go_wp2
  refine wp_loop_rounds 1 ?_
  rw [rounds_succ]
  go_wp2
  go_ret
  exact ⟨rfl, by rw [← clA_zero x]⟩

theorem cl_cells (x : Nat → Int) (n : Nat) (w : World) : ∀ j, j < n → (w.alloc (.cells (clA x n n) 5)).cell? ⟨w.heap.size, j, none⟩ = some (.int .u8 (x j)) := by
  intro j hj
  rw [cell_of_row _ _ _ _ _ _ (heap_alloc_new w _), clA_get x n n j hj, if_pos hj]

theorem sent_alloc {w : World} {a0 a1 : Addr} (h : Sent w a0 a1) (o : Obj) (k : Nat) : Sent ((w.alloc o).drewN k) a0 a1 :=
  h.below (below_drewN ((Below.refl _ _).alloc (Nat.le_refl _) _) k)

/-- zzPcap and NewReader agree on what lies in block g: together refused, or together taken with the same header. -/
theorem decided (F : Interp) (x : Nat → Int) (g n : Nat) (w : World) (a0 a1 : Addr) (hF : F.answers w.tape) (hS : Sent w a0 a1) (hx : ∀ j, 0 ≤ x j ∧ x j ≤ 255) (hn2 : n ≤ 1048576) (hg : g < w.heap.size)
    (hc : ∀ j, j < n → w.cell? ⟨g, j, none⟩ = some (.int .u8 (x j))) :
    ((Calls Tryf.prog 9 #[.slice (some ⟨g, 0, none⟩) n n] w fun e w' => e = .returned pcapNo ∧ ∃ k, w' = w.drewN k) ∧ ∀ k, Refused (some ⟨g, 0, none⟩) n (w.drewN k)) ∨
    (24 ≤ n ∧ ∃ ord big nn lk, ord.oneCell' = true ∧ (Calls Tryf.prog 9 #[.slice (some ⟨g, 0, none⟩) n n] w fun e w' => e = .returned (.tuple #[.bool true, .bool big, .bool nn, .int .u32 lk]) ∧ ∃ k, w' = w.drewN k) ∧
      (∀ k, Made x ord nn (some ⟨g, 0, none⟩) n (w.drewN k)) ∧ ∀ w, Calls Tryf.prog 15 #[.agg (hdrA x ord nn)] w fun e w' => e = .returned (.int .u32 lk) ∧ Below w.heap.size w w') := by
  have hSk : ∀ k, Sent (w.drewN k) a0 a1 := fun k => hS.below (below_drewN (Below.refl _ _) k)
  by_cases hn : n < 24
  · refine Or.inl ⟨pcap_short _ n n w hn, fun k => ?_⟩
    by_cases h0 : n = 0
    · subst h0; exact refused_empty _ _ a0 a1 (hSk k)
    · exact refused_short x g n _ a0 a1 (hSk k) (by omega) hn hg hc
  have hn' : 24 ≤ n := by omega
  have ref : ∀ hp, ∀ k, Refused (some ⟨g, 0, none⟩) n (w.drewN k) := fun hp k => refused_parse F x g n (w.drewN k) hF hn' hn2 hg hc hp
  by_cases hl : le4 x 0 = 2712847316 ∨ le4 x 0 = 2712812621
  · by_cases hv : le2 x 4 = 2 ∧ le2 x 6 = 4
    · obtain ⟨nn, hnn⟩ : ∃ nn, (le4 x 0 = 2712847316 ∧ nn = false) ∨ (le4 x 0 = 2712812621 ∧ nn = true) := by
        rcases hl with h | h
        · exact ⟨false, Or.inl ⟨h, rfl⟩⟩
        · exact ⟨true, Or.inr ⟨h, rfl⟩⟩
      have v1 : (le2 x 4 != 2) = false := by simp [hv.1]
      have v2 : (le2 x 6 != 4) = false := by simp [hv.2]
      exact Or.inr ⟨hn', .iface 100 (.agg #[]), false, nn, _, rfl, pcap_le_ok x nn g n w hn' hx hc hnn v1 v2, fun k => made_parse F x _ nn g n (w.drewN k) hF rfl hn' hn2 hg hc (fun w _ => parse_le_ok x nn w hx hnn v1 v2), fun w => link_le' x nn w hx⟩
    · have hv' : (le2 x 4 != 2) = true ∨ (le2 x 4 != 2) = false ∧ (le2 x 6 != 4) = true := by
        by_cases h : le2 x 4 = 2
        · exact Or.inr ⟨by simp [h], by simp; exact fun e => hv ⟨h, e⟩⟩
        · exact Or.inl (by simp [h])
      obtain ⟨nn, hnn⟩ : ∃ nn, (le4 x 0 = 2712847316 ∧ nn = false) ∨ (le4 x 0 = 2712812621 ∧ nn = true) := by
        rcases hl with h | h
        · exact ⟨false, Or.inl ⟨h, rfl⟩⟩
        · exact ⟨true, Or.inr ⟨h, rfl⟩⟩
      exact Or.inl ⟨pcap_le_bad x nn g n w hn' hx hc hnn hv', ref (fun w hF => parse_le_bad F x w hF hx hl hv')⟩
  have l1 : (le4 x 0 != 2712847316) = true := by simp; exact fun e => hl (Or.inl e)
  have l2 : (le4 x 0 != 2712812621) = true := by simp; exact fun e => hl (Or.inr e)
  by_cases hb : be4 x 0 = 2712847316 ∨ be4 x 0 = 2712812621
  · obtain ⟨nn, hnn⟩ : ∃ nn, (be4 x 0 = 2712847316 ∧ nn = false) ∨ (be4 x 0 = 2712812621 ∧ nn = true) := by
      rcases hb with h | h
      · exact ⟨false, Or.inl ⟨h, rfl⟩⟩
      · exact ⟨true, Or.inr ⟨h, rfl⟩⟩
    have hnn' : (le4 x 0 = 3569595041 ∧ nn = false) ∨ (le4 x 0 = 1295823521 ∧ nn = true) := by
      rcases hnn with ⟨h, e⟩ | ⟨h, e⟩
      · exact Or.inl ⟨(be_micros x hx).1 h, e⟩
      · exact Or.inr ⟨(be_nanos x hx).1 h, e⟩
    by_cases hv : be2 x 4 = 2 ∧ be2 x 6 = 4
    · have v1 : (be2 x 4 != 2) = false := by simp [hv.1]
      have v2 : (be2 x 6 != 4) = false := by simp [hv.2]
      exact Or.inr ⟨hn', .iface 102 (.agg #[]), true, nn, _, rfl, pcap_be_ok x nn g n w hn' hx hc l1 l2 hnn v1 v2, fun k => made_parse F x _ nn g n (w.drewN k) hF rfl hn' hn2 hg hc (fun w _ => parse_be_ok x nn w hx hnn' v1 v2), fun w => link_be' x nn w hx⟩
    · have hv' : (be2 x 4 != 2) = true ∨ (be2 x 4 != 2) = false ∧ (be2 x 6 != 4) = true := by
        by_cases h : be2 x 4 = 2
        · exact Or.inr ⟨by simp [h], by simp; exact fun e => hv ⟨h, e⟩⟩
        · exact Or.inl (by simp [h])
      have hbl : le4 x 0 = 3569595041 ∨ le4 x 0 = 1295823521 := by
        rcases hnn' with ⟨h, _⟩ | ⟨h, _⟩
        · exact Or.inl h
        · exact Or.inr h
      exact Or.inl ⟨pcap_be_bad x nn g n w hn' hx hc l1 l2 hnn hv', ref (fun w hF => parse_be_bad F x w hF hx hbl hv')⟩
  have b1 : (be4 x 0 != 2712847316) = true := by simp; exact fun e => hb (Or.inl e)
  have b2 : (be4 x 0 != 2712812621) = true := by simp; exact fun e => hb (Or.inr e)
  refine Or.inl ⟨pcap_none x g n w hn' hx hc l1 l2 b1 b2, ?_⟩
  by_cases hs : le4 x 0 = 168627466
  · exact ref (fun w _ => parse_section x w hx hs)
  · refine ref (fun w hF => parse_magic F x w hF hx ?_ ?_ ?_ ?_ ?_)
    · simp; exact fun e => hl (Or.inl e)
    · simp; exact fun e => hl (Or.inr e)
    · simp; exact fun e => hb (Or.inl ((be_micros x hx).2 e))
    · simp; exact fun e => hb (Or.inr ((be_nanos x hx).2 e))
    · simp; exact hs

/-- The whole law at a slice of at most 2^20 bytes that is not nil. -/
theorem f3_some (F : Interp) (x : Nat → Int) (g o n c : Nat) (w : World) (a0 a1 : Addr) (hF : F.answers w.tape) (hS : Sent w a0 a1) (hx : ∀ j, 0 ≤ x j ∧ x j ≤ 255) (hn : n ≤ 1048576) (hg : g < w.heap.size)
    (hc : ∀ j, j < n → w.cell? ⟨g, o + j, none⟩ = some (.int .u8 (x j))) :
    Calls Tryf.prog 3 #[.slice (some ⟨g, o, none⟩) n c] w fun e w' => e = .returned (.bool true) ∧ Below w.heap.size w w' := by
  have h8 := (clone_some x g o n c w hn hg hc).mono (fun e w' (h : _ ∧ _) => (⟨h.1, h.2.symm⟩ : e = .returned (.slice (some ⟨w.heap.size, 0, none⟩) n n) ∧ w.alloc (.cells (clA x n n) 5) = w'))
  have hb1 : Below w.heap.size w (w.alloc (.cells (clA x n n) 5)) := (Below.refl _ _).alloc (Nat.le_refl _) _
  have hg1 : w.heap.size < (w.alloc (.cells (clA x n n) 5)).heap.size := by simp
  rcases decided F x w.heap.size n (w.alloc (.cells (clA x n n) 5)) a0 a1 hF (hS.below hb1) hx hn hg1 (cl_cells x n w) with ⟨h9, h10⟩ | ⟨h24, ord, big, nn, lk, hor, h9, h10, h15⟩
  · exact f3_refused _ _ n c w _ hn hb1 h8 h9 h10
  · exact f3_made x ord nn big lk _ _ n c w _ hn h24 hb1 hg1 hor (cl_cells x n w) h8 h9 h10 h15

theorem f3_zero (F : Interp) (a : Addr) (c : Nat) (w : World) (a0 a1 : Addr) (hF : F.answers w.tape) (hS : Sent w a0 a1) :
    Calls Tryf.prog 3 #[.slice (some a) 0 c] w fun e w' => e = .returned (.bool true) ∧ Below w.heap.size w w' := by
  have hb1 : Below w.heap.size w (w.alloc (.cells (clA (fun _ => 0) 0 0) 5)) := (Below.refl _ _).alloc (Nat.le_refl _) _
  have hg1 : w.heap.size < (w.alloc (.cells (clA (fun _ => 0) 0 0) 5)).heap.size := by simp
  rcases decided F (fun _ => 0) w.heap.size 0 (w.alloc (.cells (clA (fun _ => 0) 0 0) 5)) a0 a1 hF (hS.below hb1) (fun _ => ⟨by omega, by omega⟩) (by omega) hg1 (cl_cells _ 0 w) with ⟨h9, h10⟩ | ⟨h24, _⟩
  · exact f3_refused _ _ 0 c w _ (by omega) hb1 (clone_zero _ a c w) h9 h10
  · omega

theorem f3_nil (w : World) (a0 a1 : Addr) (hS : Sent w a0 a1) :
    Calls Tryf.prog 3 #[.slice none 0 0] w fun e w' => e = .returned (.bool true) ∧ Below w.heap.size w w' :=
  f3_refused none none 0 0 w w (by omega) (Below.refl _ _) ((clone_nil w).mono fun _ _ ⟨h, e⟩ => ⟨h, e.symm⟩) (pcap_short none 0 0 w (by omega)) (fun k => refused_empty none _ a0 a1 (hS.below (below_drewN (Below.refl _ _) k)))
end Go.Proofs.Qxb6616658aFmt
