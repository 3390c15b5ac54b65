import Derived.Test.Qxb6616658aFmtTwin
namespace Go.Proofs.Qxb6616658aFmt
open Go.RowKit Go.Extern.Stop Go.Stop Go.Extern

/-- The magic and the version in the order 'little', 'big'. -/
def OkLe (x : Nat → Int) (nn : Bool) : Prop := ((le4 x 0 = 2712847316 ∧ nn = false) ∨ (le4 x 0 = 2712812621 ∧ nn = true)) ∧ le2 x 4 = 2 ∧ le2 x 6 = 4
def OkBe (x : Nat → Int) (nn : Bool) : Prop := ((be4 x 0 = 2712847316 ∧ nn = false) ∨ (be4 x 0 = 2712812621 ∧ nn = true)) ∧ be2 x 4 = 2 ∧ be2 x 6 = 4
theorem ok_twin_le (x : Nat → Int) (nn : Bool) : OkLe (twin x) nn ↔ OkBe x nn := by unfold OkLe OkBe; rw [twin_le0, twin_le4, twin_le6]
theorem ok_twin_be (x : Nat → Int) (nn : Bool) : OkBe (twin x) nn ↔ OkLe x nn := by unfold OkLe OkBe; rw [twin_be0, twin_be4, twin_be6]

theorem made_le (F : Interp) (x : Nat → Int) (nn : Bool) (g n : Nat) (w : World) (hF : F.answers w.tape) (hx : ∀ j, 0 ≤ x j ∧ x j ≤ 255) (h24 : 24 ≤ n) (hn2 : n ≤ 1048576) (hg : g < w.heap.size)
    (hc : ∀ j, j < n → w.cell? ⟨g, j, none⟩ = some (.int .u8 (x j))) (h : OkLe x nn) : Made x (.iface 100 (.agg #[])) nn (some ⟨g, 0, none⟩) n w := by
  obtain ⟨hnn, h4, h6⟩ := h
  exact made_parse F x _ nn g n w hF rfl h24 hn2 hg hc (fun w _ => parse_le_ok x nn w hx hnn (by simp [h4]) (by simp [h6]))
theorem made_be (F : Interp) (x : Nat → Int) (nn : Bool) (g n : Nat) (w : World) (hF : F.answers w.tape) (hx : ∀ j, 0 ≤ x j ∧ x j ≤ 255) (h24 : 24 ≤ n) (hn2 : n ≤ 1048576) (hg : g < w.heap.size)
    (hc : ∀ j, j < n → w.cell? ⟨g, j, none⟩ = some (.int .u8 (x j))) (h : OkBe x nn) : Made x (.iface 102 (.agg #[])) nn (some ⟨g, 0, none⟩) n w := by
  obtain ⟨hnn, h4, h6⟩ := h
  have hnn' : (le4 x 0 = 3569595041 ∧ nn = false) ∨ (le4 x 0 = 1295823521 ∧ nn = true) := by
    rcases hnn with ⟨h, e⟩ | ⟨h, e⟩
    · exact Or.inl ⟨(be_micros x hx).1 h, e⟩
    · exact Or.inr ⟨(be_nanos x hx).1 h, e⟩
  exact made_parse F x _ nn g n w hF rfl h24 hn2 hg hc (fun w _ => parse_be_ok x nn w hx hnn' (by simp [h4]) (by simp [h6]))
theorem pcap_le (x : Nat → Int) (nn : Bool) (g n : Nat) (w : World) (h24 : 24 ≤ n) (hx : ∀ j, 0 ≤ x j ∧ x j ≤ 255) (hc : ∀ j, j < n → w.cell? ⟨g, j, none⟩ = some (.int .u8 (x j))) (h : OkLe x nn) :
    Calls Tryf.prog 9 #[.slice (some ⟨g, 0, none⟩) n n] w fun e w' => e = .returned (.tuple #[.bool true, .bool false, .bool nn, .int .u32 (bits .and .u32 (le4 x 20) 67108863)]) ∧ ∃ k, w' = w.drewN k :=
  pcap_le_ok x nn g n w h24 hx hc h.1 (by simp [h.2.1]) (by simp [h.2.2])
theorem be_not_le {x : Nat → Int} {nn : Bool} (hx : ∀ j, 0 ≤ x j ∧ x j ≤ 255) (h : OkBe x nn) : (le4 x 0 != 2712847316) = true ∧ (le4 x 0 != 2712812621) = true := by
  have h1 := be_micros x hx
  have h2 := be_nanos x hx
  rcases h.1 with ⟨h, _⟩ | ⟨h, _⟩
  · have := h1.1 h; constructor <;> simp <;> omega
  · have := h2.1 h; constructor <;> simp <;> omega
theorem pcap_be (x : Nat → Int) (nn : Bool) (g n : Nat) (w : World) (h24 : 24 ≤ n) (hx : ∀ j, 0 ≤ x j ∧ x j ≤ 255) (hc : ∀ j, j < n → w.cell? ⟨g, j, none⟩ = some (.int .u8 (x j))) (h : OkBe x nn) :
    Calls Tryf.prog 9 #[.slice (some ⟨g, 0, none⟩) n n] w fun e w' => e = .returned (.tuple #[.bool true, .bool true, .bool nn, .int .u32 (bits .and .u32 (be4 x 20) 67108863)]) ∧ ∃ k, w' = w.drewN k :=
  pcap_be_ok x nn g n w h24 hx hc (be_not_le hx h).1 (be_not_le hx h).2 h.1 (by simp [h.2.1]) (by simp [h.2.2])

/-- Neither order: refused, and zzPcap says no. -/
theorem refused_no (F : Interp) (x : Nat → Int) (g n : Nat) (w : World) (a0 a1 : Addr) (hF : F.answers w.tape) (hS : Sent w a0 a1) (hx : ∀ j, 0 ≤ x j ∧ x j ≤ 255) (hn2 : n ≤ 1048576) (hg : g < w.heap.size)
    (hc : ∀ j, j < n → w.cell? ⟨g, j, none⟩ = some (.int .u8 (x j))) (hno : n < 24 ∨ (∀ nn, ¬ OkLe x nn) ∧ ∀ nn, ¬ OkBe x nn) :
    (Calls Tryf.prog 9 #[.slice (some ⟨g, 0, none⟩) n n] w fun e w' => e = .returned pcapNo ∧ ∃ k, w' = w.drewN k) ∧ Refused (some ⟨g, 0, none⟩) n w := by
  by_cases hn : n < 24
  · refine ⟨pcap_short _ n n w hn, ?_⟩
    by_cases h0 : n = 0
    · subst h0; exact refused_empty _ _ a0 a1 hS
    · exact refused_short x g n _ a0 a1 hS (by omega) hn hg hc
  have hn' : 24 ≤ n := by omega
  obtain ⟨hno1, hno2⟩ : (∀ nn, ¬ OkLe x nn) ∧ ∀ nn, ¬ OkBe x nn := by
    rcases hno with h | h
    · exact absurd h hn
    · exact h
  have ref : ∀ hp, Refused (some ⟨g, 0, none⟩) n w := fun hp => refused_parse F x g n w hF hn' hn2 hg hc hp
  by_cases hl : le4 x 0 = 2712847316 ∨ le4 x 0 = 2712812621
  · obtain ⟨nn, hnn⟩ : ∃ nn, (le4 x 0 = 2712847316 ∧ nn = false) ∨ (le4 x 0 = 2712812621 ∧ nn = true) := by
      rcases hl with h | h
      · exact ⟨false, Or.inl ⟨h, rfl⟩⟩
      · exact ⟨true, Or.inr ⟨h, rfl⟩⟩
    have hv' : (le2 x 4 != 2) = true ∨ (le2 x 4 != 2) = false ∧ (le2 x 6 != 4) = true := by
      by_cases h : le2 x 4 = 2
      · exact Or.inr ⟨by simp [h], by simp; exact fun e => hno1 nn ⟨hnn, h, e⟩⟩
      · exact Or.inl (by simp [h])
    exact ⟨pcap_le_bad x nn g n w hn' hx hc hnn hv', ref (fun w hF => parse_le_bad F x w hF hx hl hv')⟩
  have l1 : (le4 x 0 != 2712847316) = true := by simp; exact fun e => hl (Or.inl e)
  have l2 : (le4 x 0 != 2712812621) = true := by simp; exact fun e => hl (Or.inr e)
  by_cases hb : be4 x 0 = 2712847316 ∨ be4 x 0 = 2712812621
  · obtain ⟨nn, hnn⟩ : ∃ nn, (be4 x 0 = 2712847316 ∧ nn = false) ∨ (be4 x 0 = 2712812621 ∧ nn = true) := by
      rcases hb with h | h
      · exact ⟨false, Or.inl ⟨h, rfl⟩⟩
      · exact ⟨true, Or.inr ⟨h, rfl⟩⟩
    have hnn' : (le4 x 0 = 3569595041 ∧ nn = false) ∨ (le4 x 0 = 1295823521 ∧ nn = true) := by
      rcases hnn with ⟨h, e⟩ | ⟨h, e⟩
      · exact Or.inl ⟨(be_micros x hx).1 h, e⟩
      · exact Or.inr ⟨(be_nanos x hx).1 h, e⟩
    have hv' : (be2 x 4 != 2) = true ∨ (be2 x 4 != 2) = false ∧ (be2 x 6 != 4) = true := by
      by_cases h : be2 x 4 = 2
      · exact Or.inr ⟨by simp [h], by simp; exact fun e => hno2 nn ⟨hnn, h, e⟩⟩
      · exact Or.inl (by simp [h])
    have hbl : le4 x 0 = 3569595041 ∨ le4 x 0 = 1295823521 := by
      rcases hnn' with ⟨h, _⟩ | ⟨h, _⟩
      · exact Or.inl h
      · exact Or.inr h
    exact ⟨pcap_be_bad x nn g n w hn' hx hc l1 l2 hnn hv', ref (fun w hF => parse_be_bad F x w hF hx hbl hv')⟩
  have b1 : (be4 x 0 != 2712847316) = true := by simp; exact fun e => hb (Or.inl e)
  have b2 : (be4 x 0 != 2712812621) = true := by simp; exact fun e => hb (Or.inr e)
  refine ⟨pcap_none x g n w hn' hx hc l1 l2 b1 b2, ?_⟩
  by_cases hs : le4 x 0 = 168627466
  · exact ref (fun w _ => parse_section x w hx hs)
  · refine ref (fun w hF => parse_magic F x w hF hx ?_ ?_ ?_ ?_ ?_)
    · simp; exact fun e => hl (Or.inl e)
    · simp; exact fun e => hl (Or.inr e)
    · simp; exact fun e => hb (Or.inl ((be_micros x hx).2 e))
    · simp; exact fun e => hb (Or.inr ((be_nanos x hx).2 e))
    · simp; exact hs
end Go.Proofs.Qxb6616658aFmt
