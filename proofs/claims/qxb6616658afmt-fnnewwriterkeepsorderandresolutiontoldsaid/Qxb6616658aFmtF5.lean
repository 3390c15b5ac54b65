import Derived.Test.Qxb6616658aFmtWri
import Derived.Test.Qxb6616658aFmtAll3
namespace Go.Proofs.Qxb6616658aFmt
open Go.RowKit Go.Extern.Stop Go.Stop Go.Extern

set_option maxRecDepth 100000 in
set_option maxHeartbeats 400000 in
theorem bytes18_any (a : Option Addr) (n c : Nat) (w : World) (hn : n ≤ 1048576) :
    Calls Tryf.prog 18 #[.slice a n c] w fun e w' => e = .returned (.bool true) ∧ w' = w := by
  go_enter Tryf.func18, Tryf.ntmps18
  go_wp2
  go_ret
  exact ⟨rfl, rfl⟩

set_option maxRecDepth 100000 in
set_option maxHeartbeats 400000 in
theorem f5_long (a : Option Addr) (n c : Nat) (w : World) (hn : 1048576 < n) (hm : n ≤ maxLen) :
    Calls Tryf.prog 5 #[.slice a n c] w fun e w' => e = .returned (.bool true) ∧ Below w.heap.size w w' := by
  unfold maxLen at hm
  go_enter Tryf.func5, Tryf.ntmps5
  go_wp2
  go_ret
  exact ⟨rfl, Below.refl _ _⟩

set_option maxRecDepth 100000 in
set_option maxHeartbeats 400000 in
theorem f5_refused (s0 s : Option Addr) (n c : Nat) (w w1 : World) (hn : n ≤ 1048576) (hb1 : Below w.heap.size w w1)
    (h8 : Calls Tryf.prog 8 #[.slice s0 n c] w fun e w' => e = .returned (.slice s n n) ∧ w1 = w')
    (h9 : Calls Tryf.prog 9 #[.slice s n n] w1 fun e w' => e = .returned pcapNo ∧ ∃ k, w' = w1.drewN k)
    (h10 : ∀ k, Refused s n (w1.drewN k)) :
    Calls Tryf.prog 5 #[.slice s0 n c] w fun e w' => e = .returned (.bool true) ∧ Below w.heap.size w w' := by
  have H8 := mkHid h8
  have H9 := mkHid h9
  have H10 := mkHid h10
  clear h8 h9 h10
  go_enter Tryf.func5, Tryf.ntmps5
  go_wp2_with (first
    | (go_at_call 18; refine (bytes18_any _ _ _ _ hn).mono ?_; rintro e w' ⟨rfl, rfl⟩)
    | (go_at_call 8; refine H8.out.mono ?_; rintro e w' ⟨rfl, rfl⟩)
    | (go_at_call 9; refine H9.out.mono ?_; rintro e w' ⟨rfl, k, rfl⟩; unfold pcapNo)
    | (go_at_call 10; refine (H10.out k).mono ?_; rintro e w2 ⟨v1, v2, rfl, rfl, a, rfl, hb⟩; have HB := mkHid hb; clear hb))
  go_ret
  exact ⟨rfl, (below_drewN hb1 k).trans (HB.out.mono hb1.size)⟩


/-- 'wpList_load_sub' under a guard that says yes. -/
theorem wpList_load_sub_g {P : Program} {ops : Array Oper} {rest : List Oper} {o : Oper} {a : Act} {w : World} {Q : Exit → Act → World → Prop} (ty : TypeId) (x : Operand) (ho : o.op = .load ty x)
    (g off n : Nat) (hx : a.eval x = .pointer (some ⟨g, off, none⟩)) (t : TypeId) (cs : Array Value) (fr : Nat × Nat) (d : TypeDesc) (hg : w.heap[g]? = some (.cells cs t fr))
    (hu : P.underlying ty = some d) (hd : (match d with | .struct _ | .array _ _ => true | _ => false) = true) (hi : (P.info? ty).map (·.size) = some n) (hn : off + n ≤ cs.size)
    (hw : Region.wanted o (yielded ops a.tmps) = true)
    (h : wpList P ops Q rest (a.put o.dst (.agg (cs.extract off (off + n)))) w) : wpList P ops Q (o :: rest) a w :=
  wpList_step fun _ hK => by rw [if_pos hw]; exact wp_load_sub ty x ho g off n hx t cs fr d hg hu hd hi hn (hK _ _ h)

theorem Tryf.toArray (g cap : Nat) (w : World) : (Instr.arrayAt 33 (.slice (some ⟨g, 0, none⟩) 24 cap)).run Tryf.prog w = .ok (.pointer (some ⟨g, 0, none⟩)) w := by kernel_rfl
theorem extract_raw {cur : Array Value} {x : Nat → Int} (h : cur.toList.take 24 = rawL x) : cur.extract 0 (0 + 24) = rawA x := by
  apply Array.ext'
  simpa [rawA] using h

set_option maxRecDepth 100000 in
set_option maxHeartbeats 800000 in
theorem f5_made (x : Nat → Int) (ord : Value) (nn big : Bool) (lk : Int) (s0 : Option Addr) (g n c : Nat) (w w1 : World) (hn : n ≤ 1048576) (hn24 : 24 ≤ n) (hb1 : Below w.heap.size w w1) (hg : g < w1.heap.size) (hor : ord.oneCell' = true)
    (hc : ∀ j, j < n → w1.cell? ⟨g, j, none⟩ = some (.int .u8 (x j)))
    (h8 : Calls Tryf.prog 8 #[.slice s0 n c] w fun e w' => e = .returned (.slice (some ⟨g, 0, none⟩) n n) ∧ w1 = w')
    (h9 : Calls Tryf.prog 9 #[.slice (some ⟨g, 0, none⟩) n n] w1 fun e w' => e = .returned (.tuple #[.bool true, .bool big, .bool nn, .int .u32 lk]) ∧ ∃ k, w' = w1.drewN k)
    (h10 : ∀ k, Made x ord nn (some ⟨g, 0, none⟩) n (w1.drewN k)) :
    Calls Tryf.prog 5 #[.slice s0 n c] w fun e w' => e = .returned (.bool true) ∧ Below w.heap.size w w' := by
  have H8 := mkHid h8
  have H9 := mkHid h9
  have H10 := mkHid h10
  have HC := mkHid hc
  clear h8 h9 h10 hc
  have hta := Tryf.toArray
  go_enter Tryf.func5, Tryf.ntmps5
  go_wp2_with (first
    | (go_at_call 18; refine (bytes18_any _ _ _ _ hn).mono ?_; rintro e w' ⟨rfl, rfl⟩)
    | (go_at_call 8; refine H8.out.mono ?_; rintro e w' ⟨rfl, rfl⟩)
    | (go_at_call 9; refine H9.out.mono ?_; rintro e w' ⟨rfl, k, rfl⟩)
    | (go_at_call 10; refine (H10.out k).mono ?_; rintro e w2 ⟨v1, v2, rfl, rfl, N, src, rfl, hb, hN, hh⟩; have H2 : Hid (Below w1.heap.size w1 w2) := (below_drewN (Below.refl w1.heap.size w1) k).trans (hb.mono (Nat.le_refl _)); have HH := mkHid hh; clear hb hh)
    | (go_at_call 11; refine (header_any src x ord nn N _ hor HH.out).mono ?_; rintro e w3 ⟨rfl, hb3⟩; have H3 := mkHid (H2.out.trans (hb3.mono H2.out.size)); clear hb3)
    | (go_at_call 19; refine (newwriteron x ord nn _).mono ?_; rintro e w4 ⟨M, b, rfl, hb4, hlt, hI, hne, hM⟩; have H4 := mkHid (H3.out.trans (hb4.mono H3.out.size)); have HI := mkHid hI; clear hb4 hI hM)
    | (go_at_call 20; refine (bufbytes b b _ _ HI.out).mono ?_; rintro e w5 ⟨v, rfl, ⟨_, hO⟩, m, rfl⟩; rw [rawL_len] at hO; rcases hO with ⟨_, h0⟩ | ⟨go, cap, cur, rfl, hbg, hgo, h24, hcap, hsz, htk⟩; (· cases h0); have HG := mkHid hgo; have HT := mkHid (extract_raw (by simpa using htk)); have HZ : Hid (24 ≤ cur.size) := (by rw [hsz]; show 24 ≤ cap * 1; omega); clear hgo htk hsz)
    | (guard_target = wpList _ _ _ _ _ _; refine wpList_load_sub_g 33 _ rfl go 0 24 rfl 5 cur (0, 0) _ HG.out Tryf.underlying33 rfl Tryf.info33 HZ.out (by kernel_rfl) ?_; rw [HT.out])
    | (go_at_call 12; refine (is_yes x g n _ hn24 ?_ ?_).mono ?_; (· intro j hj; exact (H4.out.cell (p := ⟨g, j, none⟩) hg).trans (HC.out j hj)); (· have := H4.out.size; show g < w4.heap.size; omega); rintro e w6 ⟨rfl, hb6⟩; have H6 : Hid (Below w1.heap.size w1 w6) := (below_drewN H4.out m).trans (hb6.mono H4.out.size); clear hb6))
  go_ret
  exact ⟨rfl, hb1.trans (H6.out.mono hb1.size)⟩

/-- The whole law at a slice of at most 2^20 bytes that is not nil. -/
theorem f5_some (F : Interp) (x : Nat → Int) (g o n c : Nat) (w : World) (a0 a1 : Addr) (hF : F.answers w.tape) (hS : Sent w a0 a1) (hx : ∀ j, 0 ≤ x j ∧ x j ≤ 255) (hn : n ≤ 1048576) (hg : g < w.heap.size)
    (hc : ∀ j, j < n → w.cell? ⟨g, o + j, none⟩ = some (.int .u8 (x j))) :
    Calls Tryf.prog 5 #[.slice (some ⟨g, o, none⟩) n c] w fun e w' => e = .returned (.bool true) ∧ Below w.heap.size w w' := by
  have h8 := (clone_some x g o n c w hn hg hc).mono (fun e w' (h : _ ∧ _) => (⟨h.1, h.2.symm⟩ : e = .returned (.slice (some ⟨w.heap.size, 0, none⟩) n n) ∧ w.alloc (.cells (clA x n n) 5) = w'))
  have hb1 : Below w.heap.size w (w.alloc (.cells (clA x n n) 5)) := (Below.refl _ _).alloc (Nat.le_refl _) _
  have hg1 : w.heap.size < (w.alloc (.cells (clA x n n) 5)).heap.size := by simp
  rcases decided F x w.heap.size n (w.alloc (.cells (clA x n n) 5)) a0 a1 hF (hS.below hb1) hx hn hg1 (cl_cells x n w) with ⟨h9, h10⟩ | ⟨h24, ord, big, nn, lk, hor, h9, h10, _⟩
  · exact f5_refused _ _ n c w _ hn hb1 h8 h9 h10
  · exact f5_made x ord nn big lk _ _ n c w _ hn h24 hb1 hg1 hor (cl_cells x n w) h8 h9 h10

theorem f5_zero (F : Interp) (a : Addr) (c : Nat) (w : World) (a0 a1 : Addr) (hF : F.answers w.tape) (hS : Sent w a0 a1) :
    Calls Tryf.prog 5 #[.slice (some a) 0 c] w fun e w' => e = .returned (.bool true) ∧ Below w.heap.size w w' := by
  have hb1 : Below w.heap.size w (w.alloc (.cells (clA (fun _ => 0) 0 0) 5)) := (Below.refl _ _).alloc (Nat.le_refl _) _
  have hg1 : w.heap.size < (w.alloc (.cells (clA (fun _ => 0) 0 0) 5)).heap.size := by simp
  rcases decided F (fun _ => 0) w.heap.size 0 (w.alloc (.cells (clA (fun _ => 0) 0 0) 5)) a0 a1 hF (hS.below hb1) (fun _ => ⟨by omega, by omega⟩) (by omega) hg1 (cl_cells _ 0 w) with ⟨h9, h10⟩ | ⟨h24, _⟩
  · exact f5_refused _ _ 0 c w _ (by omega) hb1 (clone_zero _ a c w) h9 h10
  · omega

theorem f5_nil (w : World) (a0 a1 : Addr) (hS : Sent w a0 a1) :
    Calls Tryf.prog 5 #[.slice none 0 0] w fun e w' => e = .returned (.bool true) ∧ Below w.heap.size w w' :=
  f5_refused none none 0 0 w w (by omega) (Below.refl _ _) ((clone_nil w).mono fun _ _ ⟨h, e⟩ => ⟨h, e.symm⟩) (pcap_short none 0 0 w (by omega)) (fun k => refused_empty none _ a0 a1 (hS.below (below_drewN (Below.refl _ _) k)))
end Go.Proofs.Qxb6616658aFmt
