import Derived.Test.Qxb6616701aFmtPart
namespace Go.Proofs.Qxb6616701aFmt
open Go.RowKit Go.Extern.Stop Go.Stop Go.Extern

set_option maxRecDepth 100000 in
set_option maxHeartbeats 400000 in
theorem bytes5 (k : Int) (s : ByteArray) (w : World) (hn : s.size ≤ 1048576) : Calls Tryf.prog 5 #[.int .u8 k, .string s] w fun e w' => e = .returned (.bool true) ∧ w = w' := by
  go_enter Tryf.func5, Tryf.ntmps5
  go_wp2
  go_ret
  exact ⟨rfl, rfl⟩

set_option maxRecDepth 100000 in
set_option maxHeartbeats 400000 in
theorem law3_long (k : Int) (s : ByteArray) (w : World) (hn : 1048576 < s.size) (hm : s.size ≤ maxLen) : Calls Tryf.prog 3 #[.int .u8 k, .string s] w fun e w' => e = .returned (.bool true) ∧ Below w.heap.size w w' := by
  unfold maxLen at hm
  go_enter Tryf.func3, Tryf.ntmps3
  go_wp2
  go_ret
  exact ⟨rfl, Below.refl _ _⟩

/-- The verdicts of errors.Is on the two answers, in the world behind them. -/
structure Asked (w : World) (i c m e0 e1 : Addr) (o1 o2 : Nat) (atE : Bool) : Prop where
  m1 : Calls Tryf.prog 8 #[.iface 42 (.pointer (some ⟨o1, 0, none⟩))] w fun e w' => e = .returned (.bool atE) ∧ w = w'
  m2 : Calls Tryf.prog 8 #[.iface 42 (.pointer (some ⟨o2, 0, none⟩))] w fun e w' => e = .returned (.bool atE) ∧ w = w'
  i1 : Calls Tryf.prog 9 #[.iface 42 (.pointer (some ⟨o1, 0, none⟩)), .iface 38 (.pointer (some i))] w fun e w' => e = .returned (.bool (!atE)) ∧ w = w'
  i2 : Calls Tryf.prog 9 #[.iface 42 (.pointer (some ⟨o2, 0, none⟩)), .iface 38 (.pointer (some i))] w fun e w' => e = .returned (.bool (!atE)) ∧ w = w'
  back : Calls Tryf.prog 9 #[.iface 38 (.pointer (some i)), .iface 42 (.pointer (some ⟨o1, 0, none⟩))] w fun e w' => e = .returned (.bool false) ∧ w = w'
  g0 : Calls Tryf.prog 10 #[] w fun e w' => e = .returned (.iface 38 (.pointer (some e0))) ∧ w = w'
  g1 : Calls Tryf.prog 11 #[] w fun e w' => e = .returned (.iface 38 (.pointer (some e1))) ∧ w = w'
  a10 : Calls Tryf.prog 9 #[.iface 42 (.pointer (some ⟨o1, 0, none⟩)), .iface 38 (.pointer (some e0))] w fun e w' => e = .returned (.bool false) ∧ w = w'
  a11 : Calls Tryf.prog 9 #[.iface 42 (.pointer (some ⟨o1, 0, none⟩)), .iface 38 (.pointer (some e1))] w fun e w' => e = .returned (.bool false) ∧ w = w'
  a20 : Calls Tryf.prog 9 #[.iface 42 (.pointer (some ⟨o2, 0, none⟩)), .iface 38 (.pointer (some e0))] w fun e w' => e = .returned (.bool false) ∧ w = w'
  a21 : Calls Tryf.prog 9 #[.iface 42 (.pointer (some ⟨o2, 0, none⟩)), .iface 38 (.pointer (some e1))] w fun e w' => e = .returned (.bool false) ∧ w = w'
  last : Calls Tryf.prog 9 #[.iface 42 (.pointer (some ⟨o2, 0, none⟩)), .iface 42 (.pointer (some ⟨o1, 0, none⟩))] w fun e w' => e = .returned (.bool true) ∧ w = w'

/-- '==' on two errors of errors.New's make that lie in plain memory. -/
theorem eqE {a b : Addr} {w : World} {r : Bool} (ha : Plain w a) (hb : Plain w b) (h : r = true ↔ a = b) : (binOp .eql 24 (.iface 38 (.pointer (some a))) (.iface 38 (.pointer (some b)))).run Tryf.prog w = .ok (.bool r) w := by
  by_cases e : a = b
  · rw [h.2 e, e]; exact eqE_same b w
  · have : r = false := by
      cases hr : r with
      | false => rfl
      | true => exact absurd (h.1 hr) e
    rw [this]; exact eqE_other e ha hb

theorem asked_of {w : World} {i c m e0 e1 : Addr} {o1 o2 : Nat} {atE : Bool} (hS : Sent w m e0 e1) (hi : Plain w i) (hc : Plain w c) (h1 : Wraps w o1 (.iface 38 (.pointer (some c)))) (h2 : Wraps w o2 (.iface 42 (.pointer (some ⟨o1, 0, none⟩)))) (hne : o2 ≠ o1)
    (qm : atE = true ↔ c = m) (qi : (!atE) = true ↔ c = i) (q0 : c ≠ e0) (q1 : c ≠ e1) : Asked w i c m e0 e1 o1 o2 atE := by
  have f0 : false = true ↔ c = e0 := ⟨fun h => (by cases h), fun h => absurd h q0⟩
  have f1 : false = true ↔ c = e1 := ⟨fun h => (by cases h), fun h => absurd h q1⟩
  exact {
    m1 := is8 hS.gm (is_wrap o1 c m atE w h1.inner (eqE hc hS.pm qm))
    m2 := is8 hS.gm (is_wrap2 o2 o1 c m atE w h2.inner h1.inner (eqE hc hS.pm qm))
    i1 := is9 (is_wrap o1 c i (!atE) w h1.inner (eqE hc hi qi))
    i2 := is9 (is_wrap2 o2 o1 c i (!atE) w h2.inner h1.inner (eqE hc hi qi))
    back := is9 (is_back i o1 w)
    g0 := get10 hS.g0
    g1 := get11 hS.g1
    a10 := is9 (is_wrap o1 c e0 false w h1.inner (eqE hc hS.p0 f0))
    a11 := is9 (is_wrap o1 c e1 false w h1.inner (eqE hc hS.p1 f1))
    a20 := is9 (is_wrap2 o2 o1 c e0 false w h2.inner h1.inner (eqE hc hS.p0 f0))
    a21 := is9 (is_wrap2 o2 o1 c e1 false w h2.inner h1.inner (eqE hc hS.p1 f1))
    last := is9 (is_next o2 o1 w h2.inner hne h2.plain h1.plain) }

set_option maxRecDepth 100000 in
set_option maxHeartbeats 1000000 in
theorem law3_core (k : Int) (s : ByteArray) (i c m e0 e1 : Addr) (atE : Bool) (w w1 : World) (hn : s.size ≤ 1048576)
    (hk : ((k == 0) = true ∧ atE = true) ∨ ((k == 0) = false ∧ (k == 1) = true ∧ atE = true) ∨ ((k == 0) = false ∧ (k == 1) = false ∧ atE = false))
    (h6 : Calls Tryf.prog 6 #[.int .u8 k, .string s] w fun e w' => e = .returned (.iface 38 (.pointer (some i))) ∧ w1 = w')
    (h7 : Calls Tryf.prog 7 #[.iface 38 (.pointer (some i))] w1 fun e w2 => ∃ o1, e = .returned (.iface 42 (.pointer (some ⟨o1, 0, none⟩))) ∧
      Hid ((Calls Tryf.prog 7 #[.iface 42 (.pointer (some ⟨o1, 0, none⟩))] w2 fun e w3 => ∃ o2, e = .returned (.iface 42 (.pointer (some ⟨o2, 0, none⟩))) ∧ Hid (Asked w3 i c m e0 e1 o1 o2 atE ∧ Below w.heap.size w w3)) ∧ True)) :
    Calls Tryf.prog 3 #[.int .u8 k, .string s] w fun e w' => e = .returned (.bool true) ∧ Below w.heap.size w w' := by
  have H6 := mkHid h6
  have H7 := mkHid h7
  clear h6 h7
  rcases hk with ⟨hk0, rfl⟩ | ⟨hk0, hk1, rfl⟩ | ⟨hk0, hk1, rfl⟩
  all_goals
    go_enter Tryf.func3, Tryf.ntmps3
    go_wp2_with (go_at_call 5; refine (bytes5 _ _ _ hn).mono ?_; rintro e w' ⟨rfl, rfl⟩)
    refine H6.out.mono ?_
    rintro e w' ⟨rfl, rfl⟩
    go_wp2_with fail
    refine H7.out.mono ?_
    rintro e w2 ⟨o1, rfl, HO⟩
    go_wp2_with fail
    refine (HO.out.1).mono ?_
    rintro e w3 ⟨o2, rfl, HA⟩
    go_wp2_with fail
    refine (HA.out.1.m1).mono ?_
    rintro e w4 ⟨rfl, rfl⟩
    go_wp2_with fail
    refine (HA.out.1.m2).mono ?_
    rintro e w4 ⟨rfl, rfl⟩
    go_wp2_with fail
    refine (HA.out.1.i1).mono ?_
    rintro e w4 ⟨rfl, rfl⟩
    go_wp2_with fail
    refine (HA.out.1.i2).mono ?_
    rintro e w4 ⟨rfl, rfl⟩
    go_wp2_with fail
    refine (HA.out.1.back).mono ?_
    rintro e w4 ⟨rfl, rfl⟩
    go_wp2_with fail
    refine (HA.out.1.g0).mono ?_
    rintro e w4 ⟨rfl, rfl⟩
    go_wp2_with fail
    refine (HA.out.1.a10).mono ?_
    rintro e w4 ⟨rfl, rfl⟩
    go_wp2_with fail
    refine (HA.out.1.g1).mono ?_
    rintro e w4 ⟨rfl, rfl⟩
    go_wp2_with fail
    refine (HA.out.1.a11).mono ?_
    rintro e w4 ⟨rfl, rfl⟩
    go_wp2_with fail
    refine (HA.out.1.g0).mono ?_
    rintro e w4 ⟨rfl, rfl⟩
    go_wp2_with fail
    refine (HA.out.1.a20).mono ?_
    rintro e w4 ⟨rfl, rfl⟩
    go_wp2_with fail
    refine (HA.out.1.g1).mono ?_
    rintro e w4 ⟨rfl, rfl⟩
    go_wp2_with fail
    refine (HA.out.1.a21).mono ?_
    rintro e w4 ⟨rfl, rfl⟩
    go_wp2_with fail
    refine (HA.out.1.last).mono ?_
    rintro e w4 ⟨rfl, rfl⟩
    go_wp2_with fail
    go_ret
    exact ⟨rfl, HA.out.2⟩


theorem answers_below {F : Interp} {B : Nat} {w w' : World} (hF : F.answers w.tape) (hb : Below B w w') : F.answers w'.tape := by
  rw [hb.tape]; exact hF

theorem seven_of (F : Interp) {i c m e0 e1 : Addr} {atE : Bool} {w w1 : World} (hF : F.answers w1.tape) (hS : Sent w1 m e0 e1) (hi : Plain w1 i) (hc : Plain w1 c) (hb : Below w.heap.size w w1)
    (qm : atE = true ↔ c = m) (qi : (!atE) = true ↔ c = i) (q0 : c ≠ e0) (q1 : c ≠ e1)
    (h : Calls Tryf.prog 7 #[.iface 38 (.pointer (some i))] w1 (Out w1 (.iface 38 (.pointer (some c))))) :
    Calls Tryf.prog 7 #[.iface 38 (.pointer (some i))] w1 fun e w2 => ∃ o1, e = .returned (.iface 42 (.pointer (some ⟨o1, 0, none⟩))) ∧
      Hid ((Calls Tryf.prog 7 #[.iface 42 (.pointer (some ⟨o1, 0, none⟩))] w2 fun e w3 => ∃ o2, e = .returned (.iface 42 (.pointer (some ⟨o2, 0, none⟩))) ∧ Hid (Asked w3 i c m e0 e1 o1 o2 atE ∧ Below w.heap.size w w3)) ∧ True) := by
  refine h.mono ?_
  rintro e w2 ⟨o1, rfl, _, hb2, hw1⟩
  refine ⟨o1, rfl, ?_, trivial⟩
  refine (read_wrap F o1 _ m e0 e1 w2 (answers_below hF hb2) (hS.below hb2) hw1).mono ?_
  rintro e w3 ⟨o2, rfl, ho2, hb3, hw2⟩
  have hlt : o1 < w2.heap.size := hw1.plain.lt
  refine ⟨o2, rfl, asked_of ((hS.below hb2).below hb3) ((hi.below hb2).below hb3) ((hc.below hb2).below hb3) (hw1.below hb3) hw2 (by omega) qm qi q0 q1, ?_⟩
  exact hb.trans ((hb2.mono hb.size).trans (hb3.mono (Nat.le_trans hb.size hb2.size)))

theorem law3_any (F : Interp) (k : Int) (s : ByteArray) (m e0 e1 : Addr) (w : World) (hF : F.answers w.tape) (hS : Sent w m e0 e1) (hm : s.size ≤ maxLen) :
    Calls Tryf.prog 3 #[.int .u8 k, .string s] w fun e w' => e = .returned (.bool true) ∧ Below w.heap.size w w' := by
  by_cases hn : 1048576 < s.size
  · exact law3_long k s w hn hm
  have hn' : s.size ≤ 1048576 := by omega
  by_cases h0 : k = 0
  · subst h0
    exact law3_core 0 s e0 m m e0 e1 true w w hn' (Or.inl ⟨rfl, rfl⟩) (cause0 s _ w hS.g0)
      (seven_of F hF hS hS.p0 hS.pm (Below.refl _ _) ⟨fun _ => rfl, fun _ => rfl⟩ ⟨fun h => (by cases h), fun h => absurd h hS.n0⟩ hS.n0 hS.n1 (read_end F e0 m e0 e1 w hF hS (Or.inl rfl)))
  by_cases h1 : k = 1
  · subst h1
    exact law3_core 1 s e1 m m e0 e1 true w w hn' (Or.inr (Or.inl ⟨rfl, rfl, rfl⟩)) (cause1 s _ w hS.g1)
      (seven_of F hF hS hS.p1 hS.pm (Below.refl _ _) ⟨fun _ => rfl, fun _ => rfl⟩ ⟨fun h => (by cases h), fun h => absurd h hS.n1⟩ hS.n0 hS.n1 (read_end F e1 m e0 e1 w hF hS (Or.inr rfl)))
  have k0 : (k == 0) = false := by simpa using h0
  have k1 : (k == 1) = false := by simpa using h1
  have hb1 : Below w.heap.size w (w.alloc (.cells #[.string s] 40)) := (Below.refl _ _).alloc (Nat.le_refl _) _
  have hS1 := hS.below hb1
  have pi : Plain (w.alloc (.cells #[.string s] 40)) ⟨w.heap.size, 0, none⟩ := ⟨_, _, heap_alloc_new w _⟩
  have far : ∀ a : Addr, Plain w a → (⟨w.heap.size, 0, none⟩ : Addr) ≠ a := fun a pa e => by
    have := pa.lt
    rw [← e] at this
    exact Nat.lt_irrefl _ this
  exact law3_core k s ⟨w.heap.size, 0, none⟩ ⟨w.heap.size, 0, none⟩ m e0 e1 false w _ hn' (Or.inr (Or.inr ⟨k0, k1, rfl⟩)) (cause2 k s w k0 k1)
    (seven_of F (answers_below hF hb1) hS1 pi pi hb1 ⟨fun h => (by cases h), fun h => absurd h (far m hS.pm)⟩ ⟨fun _ => rfl, fun _ => rfl⟩ (far e0 hS.p0) (far e1 hS.p1)
      (read_plain F _ m e0 e1 _ (answers_below hF hb1) hS1 (far e0 hS.p0) (far e1 hS.p1) pi ⟨s, by rw [cell_of_row _ _ _ _ _ _ (heap_alloc_new w _)]; rfl⟩))
end Go.Proofs.Qxb6616701aFmt
