import Derived.Test.Qxb6616658aFmtG6
import Derived.Test.Qxb6616658aFmtG7
import Derived.Test.Qxb6616658aFmtKind
namespace Go.Proofs.Qxb6616658aFmt
open Go.RowKit Go.Extern.Stop Go.Stop Go.Extern

/-- A slice of bytes that came in: nil, or of no element, or a row. -/
def BytesIn (w : World) (s : Option Addr) (n c : Nat) (x : Nat → Int) : Prop :=
  (s = none ∧ n = 0 ∧ c = 0) ∨ ∃ a, s = some a ∧ (n = 0 ∨ ∃ g o, a = ⟨g, o, none⟩ ∧ g < w.heap.size ∧ ∀ j, j < n → w.cell? ⟨g, o + j, none⟩ = some (.int .u8 (x j)))
theorem BytesIn.below {w w' : World} {s : Option Addr} {n c : Nat} {x : Nat → Int} (h : BytesIn w s n c x) (hb : Below w.heap.size w w') : BytesIn w' s n c x := by
  rcases h with h | ⟨a, rfl, rfl | ⟨g, o, rfl, hg, hc⟩⟩
  · exact Or.inl h
  · exact Or.inr ⟨a, rfl, Or.inl rfl⟩
  · exact Or.inr ⟨_, rfl, Or.inr ⟨g, o, rfl, Nat.lt_of_lt_of_le hg hb.size, fun j hj => (hb.cell (p := ⟨g, o + j, none⟩) hg).trans (hc j hj)⟩⟩

/-- The data's clone: what the record's writing is told of it. -/
def DataOk (sd0 sd : Option Addr) (gd nd cd : Nat) (d : Nat → Int) (w1 w2 : World) : Prop :=
  Below w1.heap.size w1 w2 ∧ (Calls Tryf.prog 8 #[.slice sd0 nd cd] w1 fun e w' => e = .returned (.slice sd nd nd) ∧ w2 = w') ∧ (0 < nd → sd = some ⟨gd, 0, none⟩ ∧ gd < w2.heap.size) ∧ (∀ j, j < nd → w2.cell? ⟨gd, j, none⟩ = some (.int .u8 (d j))) ∧
  ∀ w', Below w2.heap.size w2 w' → ∀ b, w2.heap.size ≤ b → DataIn b b sd nd ((List.range nd).map fun j => Value.int .u8 (d j)) w'

theorem cells_kept {x : Nat → Int} {g n : Nat} {w w' : World} {T : Nat} (hb : Below T w w') (hT : g < T) (hc : ∀ j, j < n → w.cell? ⟨g, j, none⟩ = some (.int .u8 (x j))) : ∀ j, j < n → w'.cell? ⟨g, j, none⟩ = some (.int .u8 (x j)) :=
  fun j hj => (hb.cell (p := ⟨g, j, none⟩) hT).trans (hc j hj)

theorem dataOk_any {w1 : World} {sd0 : Option Addr} {nd cd : Nat} {d : Nat → Int} (h : BytesIn w1 sd0 nd cd d) (hnd : nd ≤ 1048576) : ∃ sd gd d' w2, DataOk sd0 sd gd nd cd d' w1 w2 := by
  rcases h with ⟨rfl, rfl, rfl⟩ | ⟨a, rfl, rfl | ⟨g, o, rfl, hg, hc⟩⟩
  · exact ⟨none, 0, fun _ => 0, w1, Below.refl _ _, (clone_nil w1).mono fun _ _ ⟨h, e⟩ => ⟨h, e.symm⟩, fun h => absurd h (by omega), fun j hj => absurd hj (by omega), fun w' _ b _ => data_nil b b w'⟩
  · have hb : Below w1.heap.size w1 (w1.alloc (.cells (clA (fun _ => 0) 0 0) 5)) := (Below.refl _ _).alloc (Nat.le_refl _) _
    have hl : w1.heap.size < (w1.alloc (.cells (clA (fun _ => 0) 0 0) 5)).heap.size := by simp
    exact ⟨some ⟨w1.heap.size, 0, none⟩, w1.heap.size, fun _ => 0, w1.alloc (.cells (clA (fun _ => 0) 0 0) 5), hb, clone_zero _ a cd w1, fun h => absurd h (by omega), fun j hj => absurd hj (by omega), fun w' _ b hle => data_some (Nat.lt_of_lt_of_le hl hle) (Nat.le_refl _) (by omega) (fun j hj => absurd hj (by omega))⟩
  · have hb : Below w1.heap.size w1 (w1.alloc (.cells (clA d nd nd) 5)) := (Below.refl _ _).alloc (Nat.le_refl _) _
    have hl : w1.heap.size < (w1.alloc (.cells (clA d nd nd) 5)).heap.size := by simp
    exact ⟨some ⟨w1.heap.size, 0, none⟩, w1.heap.size, d, w1.alloc (.cells (clA d nd nd) 5), hb, (clone_some d g o nd cd w1 hnd hg hc).mono (fun e w' (h : _ ∧ _) => ⟨h.1, h.2.symm⟩), fun _ => ⟨rfl, hl⟩, cl_cells d nd w1,
      fun w' hb' b hle => data_some (Nat.lt_of_lt_of_le hl hle) (Nat.le_refl _) hnd (cells_kept hb' hl (cl_cells d nd w1))⟩

theorem f6_made (x : Nat → Int) (d : Nat → Int) (big nn : Bool) (lk : Int) (s0 sd0 sd : Option Addr) (g gd n c nd cd : Nat) (sec nsec orig : Int) (w w1 w2 : World) (hn : n + nd ≤ 1048576) (hn24 : 24 ≤ n) (hb1 : Below w.heap.size w w1) (hg : g < w2.heap.size)
    (hs0 : 0 ≤ sec) (hs1 : sec ≤ 4294967295) (ho0 : 0 ≤ orig) (ho1 : orig ≤ 4294967295) (hn0 : 0 ≤ nsec) (hn1 : nsec ≤ 18446744073709551615)
    (hc : ∀ j, j < n → w2.cell? ⟨g, j, none⟩ = some (.int .u8 (x j))) (hD : DataOk sd0 sd gd nd cd d w1 w2)
    (h8 : Calls Tryf.prog 8 #[.slice s0 n c] w fun e w' => e = .returned (.slice (some ⟨g, 0, none⟩) n n) ∧ w1 = w')
    (h9 : Calls Tryf.prog 9 #[.slice (some ⟨g, 0, none⟩) n n] w2 fun e w' => e = .returned (.tuple #[.bool true, .bool big, .bool nn, .int .u32 lk]) ∧ ∃ k, w' = w2.drewN k)
    (h10 : ∀ k, Made x (ordOf big) nn (some ⟨g, 0, none⟩) n (w2.drewN k)) :
    Calls Tryf.prog 6 #[.slice s0 n c, .int .u32 sec, .int .u64 nsec, .int .u32 orig, .slice sd0 nd cd] w fun e w' => e = .returned (.bool true) ∧ Below w.heap.size w w' := by
  obtain ⟨hb2, h8d, hsd, hcd, hDI⟩ := hD
  have hor : (ordOf big).oneCell' = true := by cases big <;> rfl
  cases nn
  · exact f6_made0 x _ d big lk s0 sd0 sd g gd n c nd cd sec nsec orig w w1 w2 hn hn24 hb1 hb2 hg hs0 hs1 ho0 ho1 hn0 hn1 hor hc rfl hsd hcd hDI h8 h8d h9 h10
  · exact f6_made1 x _ d big lk s0 sd0 sd g gd n c nd cd sec nsec orig w w1 w2 hn hn24 hb1 hb2 hg hs0 hs1 ho0 ho1 hn0 hn1 hor hc rfl hsd hcd hDI h8 h8d h9 h10

/-- Behind the first clone: at most 2^20 bytes in block g. -/
theorem f6_core (F : Interp) (x d : Nat → Int) (s0 sd0 : Option Addr) (g n c nd cd : Nat) (sec nsec orig : Int) (w w1 : World) (a0 a1 : Addr) (hF : F.answers w1.tape) (hS : Sent w1 a0 a1) (hx : ∀ j, 0 ≤ x j ∧ x j ≤ 255) (hn : n + nd ≤ 1048576) (hb1 : Below w.heap.size w w1) (hg : g < w1.heap.size)
    (hs0 : 0 ≤ sec) (hs1 : sec ≤ 4294967295) (ho0 : 0 ≤ orig) (ho1 : orig ≤ 4294967295) (hn0 : 0 ≤ nsec) (hn1 : nsec ≤ 18446744073709551615)
    (hc : ∀ j, j < n → w1.cell? ⟨g, j, none⟩ = some (.int .u8 (x j))) (hd : BytesIn w1 sd0 nd cd d)
    (h8 : Calls Tryf.prog 8 #[.slice s0 n c] w fun e w' => e = .returned (.slice (some ⟨g, 0, none⟩) n n) ∧ w1 = w') :
    Calls Tryf.prog 6 #[.slice s0 n c, .int .u32 sec, .int .u64 nsec, .int .u32 orig, .slice sd0 nd cd] w fun e w' => e = .returned (.bool true) ∧ Below w.heap.size w w' := by
  obtain ⟨sd, gd, d', w2, hD⟩ := dataOk_any hd (by omega)
  have hb2 := hD.1
  have hg2 := Nat.lt_of_lt_of_le hg hb2.size
  have hc2 := cells_kept hb2 hg hc
  have hF2 : F.answers w2.tape := by rw [hb2.tape]; exact hF
  have hS2 := hS.below hb2
  have hbk : ∀ k, Below w2.heap.size w2 (w2.drewN k) := fun k => below_drewN (Below.refl _ _) k
  have no : (n < 24 ∨ (∀ nn, ¬ OkLe x nn) ∧ ∀ nn, ¬ OkBe x nn) → Calls Tryf.prog 6 #[.slice s0 n c, .int .u32 sec, .int .u64 nsec, .int .u32 orig, .slice sd0 nd cd] w fun e w' => e = .returned (.bool true) ∧ Below w.heap.size w w' := fun hno =>
    f6_refused s0 _ sd0 sd n c nd cd sec nsec orig w w1 w2 hn hb1 hb2 h8 hD.2.1 (refused_no F x g n w2 a0 a1 hF2 hS2 hx (by omega) hg2 hc2 hno).1 (fun k => (refused_no F x g n (w2.drewN k) a0 a1 hF2 (hS2.below (hbk k)) hx (by omega) hg2 hc2 hno).2)
  by_cases hn24 : n < 24
  · exact no (Or.inl hn24)
  have h24 : 24 ≤ n := by omega
  by_cases hle : ∃ nn, OkLe x nn
  · obtain ⟨nn, hok⟩ := hle
    exact f6_made x d' false nn _ s0 sd0 sd g gd n c nd cd sec nsec orig w w1 w2 hn h24 hb1 hg2 hs0 hs1 ho0 ho1 hn0 hn1 hc2 hD h8 (pcap_le x nn g n w2 h24 hx hc2 hok) (fun k => made_le F x nn g n (w2.drewN k) hF2 hx h24 (by omega) hg2 hc2 hok)
  by_cases hbe : ∃ nn, OkBe x nn
  · obtain ⟨nn, hok⟩ := hbe
    exact f6_made x d' true nn _ s0 sd0 sd g gd n c nd cd sec nsec orig w w1 w2 hn h24 hb1 hg2 hs0 hs1 ho0 ho1 hn0 hn1 hc2 hD h8 (pcap_be x nn g n w2 h24 hx hc2 hok) (fun k => made_be F x nn g n (w2.drewN k) hF2 hx h24 (by omega) hg2 hc2 hok)
  exact no (Or.inr ⟨fun nn h => hle ⟨nn, h⟩, fun nn h => hbe ⟨nn, h⟩⟩)

/-- The whole law at two slices that hold at most 2^20 bytes together. -/
theorem f6_all (F : Interp) (x d : Nat → Int) (s0 sd0 : Option Addr) (n c nd cd : Nat) (sec nsec orig : Int) (w : World) (a0 a1 : Addr) (hF : F.answers w.tape) (hS : Sent w a0 a1) (hx : ∀ j, 0 ≤ x j ∧ x j ≤ 255) (hn : n + nd ≤ 1048576)
    (hs0 : 0 ≤ sec) (hs1 : sec ≤ 4294967295) (ho0 : 0 ≤ orig) (ho1 : orig ≤ 4294967295) (hn0 : 0 ≤ nsec) (hn1 : nsec ≤ 18446744073709551615)
    (hb : BytesIn w s0 n c x) (hd : BytesIn w sd0 nd cd d) :
    Calls Tryf.prog 6 #[.slice s0 n c, .int .u32 sec, .int .u64 nsec, .int .u32 orig, .slice sd0 nd cd] w fun e w' => e = .returned (.bool true) ∧ Below w.heap.size w w' := by
  rcases hb with ⟨rfl, rfl, rfl⟩ | ⟨a, rfl, rfl | ⟨g, o, rfl, hg, hc⟩⟩
  · obtain ⟨sd, gd, d', w2, hD⟩ := dataOk_any hd (by omega)
    exact f6_refused none none sd0 sd 0 0 nd cd sec nsec orig w w w2 hn (Below.refl _ _) hD.1 ((clone_nil w).mono fun _ _ ⟨h, e⟩ => ⟨h, e.symm⟩) hD.2.1 (pcap_short none 0 0 w2 (by omega)) (fun k => refused_empty none _ a0 a1 ((hS.below hD.1).below (below_drewN (Below.refl _ _) k)))
  · have hb1 : Below w.heap.size w (w.alloc (.cells (clA (fun _ => 0) 0 0) 5)) := (Below.refl _ _).alloc (Nat.le_refl _) _
    exact f6_core F (fun _ => 0) d _ sd0 w.heap.size 0 c nd cd sec nsec orig w (w.alloc (.cells (clA (fun _ => 0) 0 0) 5)) a0 a1 hF (hS.below hb1) (fun _ => ⟨by omega, by omega⟩) hn hb1 (by simp) hs0 hs1 ho0 ho1 hn0 hn1 (cl_cells _ 0 w) (hd.below hb1) (clone_zero _ a c w)
  · have h8 := (clone_some x g o n c w (by omega) hg hc).mono (fun e w' (h : _ ∧ _) => (⟨h.1, h.2.symm⟩ : e = .returned (.slice (some ⟨w.heap.size, 0, none⟩) n n) ∧ w.alloc (.cells (clA x n n) 5) = w'))
    have hb1 : Below w.heap.size w (w.alloc (.cells (clA x n n) 5)) := (Below.refl _ _).alloc (Nat.le_refl _) _
    exact f6_core F x d _ sd0 w.heap.size n c nd cd sec nsec orig w (w.alloc (.cells (clA x n n) 5)) a0 a1 hF (hS.below hb1) hx hn hb1 (by simp) hs0 hs1 ho0 ho1 hn0 hn1 (cl_cells x n w) (hd.below hb1) h8
end Go.Proofs.Qxb6616658aFmt
