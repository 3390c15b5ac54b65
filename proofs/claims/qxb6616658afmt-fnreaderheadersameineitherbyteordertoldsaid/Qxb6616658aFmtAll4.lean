import Derived.Test.Qxb6616658aFmtF4
namespace Go.Proofs.Qxb6616658aFmt
open Go.RowKit Go.Extern.Stop Go.Stop Go.Extern

theorem cells_below {x : Nat → Int} {g n : Nat} {w w' : World} {T : Nat} (hb : Below T w w') (hT : g < T) (hc : ∀ j, j < n → w.cell? ⟨g, j, none⟩ = some (.int .u8 (x j))) : ∀ j, j < n → w'.cell? ⟨g, j, none⟩ = some (.int .u8 (x j)) :=
  fun j hj => (hb.cell (p := ⟨g, j, none⟩) hT).trans (hc j hj)

/-- Behind the clone: at most 2^20 bytes in block g. -/
theorem f4_core (F : Interp) (x : Nat → Int) (s0 : Option Addr) (g n c : Nat) (w w1 : World) (a0 a1 : Addr) (hF : F.answers w1.tape) (hS : Sent w1 a0 a1) (hx : ∀ j, 0 ≤ x j ∧ x j ≤ 255) (hn : n ≤ 1048576) (hb1 : Below w.heap.size w w1) (hg : g < w1.heap.size)
    (hc : ∀ j, j < n → w1.cell? ⟨g, j, none⟩ = some (.int .u8 (x j)))
    (h8 : Calls Tryf.prog 8 #[.slice s0 n c] w fun e w' => e = .returned (.slice (some ⟨g, 0, none⟩) n n) ∧ w1 = w') :
    Calls Tryf.prog 4 #[.slice s0 n c] w fun e w' => e = .returned (.bool true) ∧ Below w.heap.size w w' := by
  by_cases hn24 : n < 24
  · have hb2 : Below w1.heap.size w1 (w1.alloc (.cells (clA x n n) 5)) := (Below.refl _ _).alloc (Nat.le_refl _) _
    have h8' : Calls Tryf.prog 8 #[.slice (some ⟨g, 0, none⟩) n n] w1 fun e w' => e = .returned (.slice (some ⟨w1.heap.size, 0, none⟩) n n) ∧ w1.alloc (.cells (clA x n n) 5) = w' :=
      (clone_some x g 0 n n w1 hn hg (fun j hj => by rw [Nat.zero_add]; exact hc j hj)).mono (fun e w' (h : _ ∧ _) => ⟨h.1, h.2.symm⟩)
    have hg2 : w1.heap.size < (w1.alloc (.cells (clA x n n) 5)).heap.size := by simp
    refine f4_refused s0 _ _ n c w w1 _ hn hb1 hb2 h8 (twin17_short _ _ n w1 _ hn24 h8') (pcap_short _ n n _ hn24) (fun w' hb => ?_)
    have hb3 := hb2.trans (hb.mono hb2.size)
    have hF' : F.answers w'.tape := by rw [hb3.tape]; exact hF
    exact ⟨(refused_no F x g n w' a0 a1 hF' (hS.below hb3) hx hn (Nat.lt_of_lt_of_le hg hb3.size) (cells_below hb3 hg hc) (Or.inl hn24)).2,
      (refused_no F x w1.heap.size n w' a0 a1 hF' (hS.below hb3) hx hn (Nat.lt_of_lt_of_le hg2 hb.size) (cells_below hb hg2 (cl_cells x n w1)) (Or.inl hn24)).2⟩
  have h24 : 24 ≤ n := by omega
  have hb2 : Below w1.heap.size w1 (w1.alloc (.cells (clA (twin x) n n) 5)) := (Below.refl _ _).alloc (Nat.le_refl _) _
  have hg2 : w1.heap.size < (w1.alloc (.cells (clA (twin x) n n) 5)).heap.size := by simp
  have h17 := twin17 x g n w1 h24 hn hg hc
  have hgw : g < (w1.alloc (.cells (clA (twin x) n n) 5)).heap.size := Nat.lt_of_lt_of_le hg hb2.size
  have hcw := cells_below hb2 hg hc
  have hct := cl_cells (twin x) n w1
  have hxt := twin_in hx
  by_cases hle : ∃ nn, OkLe x nn
  · obtain ⟨nn, hok⟩ := hle
    refine f4_made x (twin x) (.iface 100 (.agg #[])) (.iface 102 (.agg #[])) nn false _ s0 g _ n c w w1 _ hn h24 hb1 hb2 hg2 rfl rfl hct h8 h17 (pcap_le x nn g n _ h24 hx hcw hok) (fun w' hb => ?_) (fun w => link_le' x nn w hx) (fun w => ?_)
    · have hF' : F.answers w'.tape := by rw [(hb2.trans (hb.mono hb2.size)).tape]; exact hF
      exact ⟨made_le F x nn g n w' hF' hx h24 hn (Nat.lt_of_lt_of_le hgw hb.size) (cells_below hb hgw hcw) hok,
        made_be F (twin x) nn _ n w' hF' hxt h24 hn (Nat.lt_of_lt_of_le hg2 hb.size) (cells_below hb hg2 hct) ((ok_twin_be x nn).2 hok)⟩
    · have := link_be' (twin x) nn w hxt
      rw [twin_be20] at this
      exact this
  by_cases hbe : ∃ nn, OkBe x nn
  · obtain ⟨nn, hok⟩ := hbe
    refine f4_made x (twin x) (.iface 102 (.agg #[])) (.iface 100 (.agg #[])) nn true _ s0 g _ n c w w1 _ hn h24 hb1 hb2 hg2 rfl rfl hct h8 h17 (pcap_be x nn g n _ h24 hx hcw hok) (fun w' hb => ?_) (fun w => link_be' x nn w hx) (fun w => ?_)
    · have hF' : F.answers w'.tape := by rw [(hb2.trans (hb.mono hb2.size)).tape]; exact hF
      exact ⟨made_be F x nn g n w' hF' hx h24 hn (Nat.lt_of_lt_of_le hgw hb.size) (cells_below hb hgw hcw) hok,
        made_le F (twin x) nn _ n w' hF' hxt h24 hn (Nat.lt_of_lt_of_le hg2 hb.size) (cells_below hb hg2 hct) ((ok_twin_le x nn).2 hok)⟩
    · have := link_le' (twin x) nn w hxt
      rw [twin_le20] at this
      exact this
  have hno : (∀ nn, ¬ OkLe x nn) ∧ ∀ nn, ¬ OkBe x nn := ⟨fun nn h => hle ⟨nn, h⟩, fun nn h => hbe ⟨nn, h⟩⟩
  have hno' : (∀ nn, ¬ OkLe (twin x) nn) ∧ ∀ nn, ¬ OkBe (twin x) nn := ⟨fun nn h => hbe ⟨nn, (ok_twin_le x nn).1 h⟩, fun nn h => hle ⟨nn, (ok_twin_be x nn).1 h⟩⟩
  refine f4_refused s0 _ _ n c w w1 _ hn hb1 hb2 h8 h17 (refused_no F x g n _ a0 a1 (by rw [hb2.tape]; exact hF) (hS.below hb2) hx hn hgw hcw (Or.inr hno)).1 (fun w' hb => ?_)
  have hb3 := hb2.trans (hb.mono hb2.size)
  have hF' : F.answers w'.tape := by rw [hb3.tape]; exact hF
  exact ⟨(refused_no F x g n w' a0 a1 hF' (hS.below hb3) hx hn (Nat.lt_of_lt_of_le hgw hb.size) (cells_below hb hgw hcw) (Or.inr hno)).2,
    (refused_no F (twin x) _ n w' a0 a1 hF' (hS.below hb3) hxt hn (Nat.lt_of_lt_of_le hg2 hb.size) (cells_below hb hg2 hct) (Or.inr hno')).2⟩

theorem f4_some (F : Interp) (x : Nat → Int) (g o n c : Nat) (w : World) (a0 a1 : Addr) (hF : F.answers w.tape) (hS : Sent w a0 a1) (hx : ∀ j, 0 ≤ x j ∧ x j ≤ 255) (hn : n ≤ 1048576) (hg : g < w.heap.size)
    (hc : ∀ j, j < n → w.cell? ⟨g, o + j, none⟩ = some (.int .u8 (x j))) :
    Calls Tryf.prog 4 #[.slice (some ⟨g, o, none⟩) n c] w fun e w' => e = .returned (.bool true) ∧ Below w.heap.size w w' := by
  have h8 := (clone_some x g o n c w hn hg hc).mono (fun e w' (h : _ ∧ _) => (⟨h.1, h.2.symm⟩ : e = .returned (.slice (some ⟨w.heap.size, 0, none⟩) n n) ∧ w.alloc (.cells (clA x n n) 5) = w'))
  have hb1 : Below w.heap.size w (w.alloc (.cells (clA x n n) 5)) := (Below.refl _ _).alloc (Nat.le_refl _) _
  exact f4_core F x _ w.heap.size n c w (w.alloc (.cells (clA x n n) 5)) a0 a1 hF (hS.below hb1) hx hn hb1 (by simp) (cl_cells x n w) h8

theorem f4_zero (F : Interp) (a : Addr) (c : Nat) (w : World) (a0 a1 : Addr) (hF : F.answers w.tape) (hS : Sent w a0 a1) :
    Calls Tryf.prog 4 #[.slice (some a) 0 c] w fun e w' => e = .returned (.bool true) ∧ Below w.heap.size w w' := by
  have hb1 : Below w.heap.size w (w.alloc (.cells (clA (fun _ => 0) 0 0) 5)) := (Below.refl _ _).alloc (Nat.le_refl _) _
  exact f4_core F (fun _ => 0) _ w.heap.size 0 c w (w.alloc (.cells (clA (fun _ => 0) 0 0) 5)) a0 a1 hF (hS.below hb1) (fun _ => ⟨by omega, by omega⟩) (by omega) hb1 (by simp) (cl_cells _ 0 w) (clone_zero _ a c w)

theorem f4_nil (w : World) (a0 a1 : Addr) (hS : Sent w a0 a1) :
    Calls Tryf.prog 4 #[.slice none 0 0] w fun e w' => e = .returned (.bool true) ∧ Below w.heap.size w w' := by
  have h8 : Calls Tryf.prog 8 #[.slice none 0 0] w fun e w' => e = .returned (.slice none 0 0) ∧ w = w' := (clone_nil w).mono fun _ _ ⟨h, e⟩ => ⟨h, e.symm⟩
  exact f4_refused none none none 0 0 w w w (by omega) (Below.refl _ _) (Below.refl _ _) h8 (twin17_short none none 0 w w (by omega) h8) (pcap_short none 0 0 w (by omega)) (fun w' hb => ⟨refused_empty none _ a0 a1 (hS.below hb), refused_empty none _ a0 a1 (hS.below hb)⟩)
end Go.Proofs.Qxb6616658aFmt
