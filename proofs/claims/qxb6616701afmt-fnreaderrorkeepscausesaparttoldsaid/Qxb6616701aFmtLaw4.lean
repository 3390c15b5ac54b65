import Derived.Test.Qxb6616701aFmtLaw3
namespace Go.Proofs.Qxb6616701aFmt
open Go.RowKit Go.Extern.Stop Go.Stop Go.Extern

set_option maxRecDepth 100000 in
set_option maxHeartbeats 400000 in
theorem bytes12 (k k2 : Int) (s s2 : ByteArray) (w : World) (hn : s.size + s2.size ≤ 1048576) : Calls Tryf.prog 12 #[.int .u8 k, .string s, .int .u8 k2, .string s2] w fun e w' => e = .returned (.bool true) ∧ w = w' := by
  go_enter Tryf.func12, Tryf.ntmps12
  go_wp2
  go_ret
  exact ⟨rfl, rfl⟩

set_option maxRecDepth 100000 in
set_option maxHeartbeats 400000 in
theorem law4_long (k k2 : Int) (s s2 : ByteArray) (w : World) (hn : 1048576 < s.size + s2.size) (hm : s.size ≤ maxLen) (hm2 : s2.size ≤ maxLen) : Calls Tryf.prog 4 #[.int .u8 k, .string s, .int .u8 k2, .string s2] w fun e w' => e = .returned (.bool true) ∧ Below w.heap.size w w' := by
  unfold maxLen at hm hm2
  by_cases h1 : 1048576 < s.size
  · go_enter Tryf.func4, Tryf.ntmps4
    go_wp2
    go_ret
    exact ⟨rfl, Below.refl _ _⟩
  · by_cases h2 : 1048576 < s2.size
    · go_enter Tryf.func4, Tryf.ntmps4
      go_wp2
      go_ret
      exact ⟨rfl, Below.refl _ _⟩
    · go_enter Tryf.func4, Tryf.ntmps4
      go_wp2
      go_ret
      exact ⟨rfl, Below.refl _ _⟩

structure Asked4 (w : World) (iA iB : Addr) (oA oB : Nat) (eA eB : Bool) : Prop where
  mA : Calls Tryf.prog 8 #[.iface 42 (.pointer (some ⟨oA, 0, none⟩))] w fun e w' => e = .returned (.bool eA) ∧ w = w'
  mB : Calls Tryf.prog 8 #[.iface 42 (.pointer (some ⟨oB, 0, none⟩))] w fun e w' => e = .returned (.bool eB) ∧ w = w'
  aa : Calls Tryf.prog 9 #[.iface 42 (.pointer (some ⟨oA, 0, none⟩)), .iface 38 (.pointer (some iA))] w fun e w' => e = .returned (.bool (!eA)) ∧ w = w'
  bb : Calls Tryf.prog 9 #[.iface 42 (.pointer (some ⟨oB, 0, none⟩)), .iface 38 (.pointer (some iB))] w fun e w' => e = .returned (.bool (!eB)) ∧ w = w'
  ab : Calls Tryf.prog 9 #[.iface 42 (.pointer (some ⟨oA, 0, none⟩)), .iface 38 (.pointer (some iB))] w fun e w' => e = .returned (.bool false) ∧ w = w'
  ba : Calls Tryf.prog 9 #[.iface 42 (.pointer (some ⟨oB, 0, none⟩)), .iface 38 (.pointer (some iA))] w fun e w' => e = .returned (.bool false) ∧ w = w'
  backA : Calls Tryf.prog 9 #[.iface 38 (.pointer (some iA)), .iface 42 (.pointer (some ⟨oA, 0, none⟩))] w fun e w' => e = .returned (.bool false) ∧ w = w'
  backB : Calls Tryf.prog 9 #[.iface 38 (.pointer (some iB)), .iface 42 (.pointer (some ⟨oB, 0, none⟩))] w fun e w' => e = .returned (.bool false) ∧ w = w'
  oAB : Calls Tryf.prog 9 #[.iface 42 (.pointer (some ⟨oA, 0, none⟩)), .iface 42 (.pointer (some ⟨oB, 0, none⟩))] w fun e w' => e = .returned (.bool false) ∧ w = w'
  oBA : Calls Tryf.prog 9 #[.iface 42 (.pointer (some ⟨oB, 0, none⟩)), .iface 42 (.pointer (some ⟨oA, 0, none⟩))] w fun e w' => e = .returned (.bool false) ∧ w = w'

theorem asked4_of {w : World} {iA cA iB cB m e0 e1 : Addr} {oA oB : Nat} {eA eB : Bool} (hS : Sent w m e0 e1) (pA : Plain w iA) (pB : Plain w iB) (qA : Plain w cA) (qB : Plain w cB)
    (hA : Wraps w oA (.iface 38 (.pointer (some cA)))) (hB : Wraps w oB (.iface 38 (.pointer (some cB)))) (hne : oA ≠ oB)
    (mA : eA = true ↔ cA = m) (mB : eB = true ↔ cB = m) (nA : (!eA) = true ↔ cA = iA) (nB : (!eB) = true ↔ cB = iB) (xAB : cA ≠ iB) (xBA : cB ≠ iA) : Asked4 w iA iB oA oB eA eB := by
  have f0 : false = true ↔ cA = iB := ⟨fun h => (by cases h), fun h => absurd h xAB⟩
  have f1 : false = true ↔ cB = iA := ⟨fun h => (by cases h), fun h => absurd h xBA⟩
  exact {
    mA := is8 hS.gm (is_wrap oA cA m eA w hA.inner (eqE qA hS.pm mA))
    mB := is8 hS.gm (is_wrap oB cB m eB w hB.inner (eqE qB hS.pm mB))
    aa := is9 (is_wrap oA cA iA (!eA) w hA.inner (eqE qA pA nA))
    bb := is9 (is_wrap oB cB iB (!eB) w hB.inner (eqE qB pB nB))
    ab := is9 (is_wrap oA cA iB false w hA.inner (eqE qA pB f0))
    ba := is9 (is_wrap oB cB iA false w hB.inner (eqE qB pA f1))
    backA := is9 (is_back iA oA w)
    backB := is9 (is_back iB oB w)
    oAB := is9 (is_apart oA oB cA w hA.inner hne hA.plain hB.plain)
    oBA := is9 (is_apart oB oA cB w hB.inner (fun e => hne e.symm) hB.plain hA.plain) }

def KindIs (k : Int) (e : Bool) : Prop := ((k == 0) = true ∧ e = true) ∨ ((k == 0) = false ∧ (k == 1) = true ∧ e = true) ∨ ((k == 0) = false ∧ (k == 1) = false ∧ e = false)

set_option maxRecDepth 100000 in
set_option maxHeartbeats 2000000 in
theorem law4_core (k k2 : Int) (s s2 : ByteArray) (iA iB : Addr) (eA eB : Bool) (w w1 w2 : World) (hn : s.size + s2.size ≤ 1048576) (hk : KindIs k eA) (hk2 : KindIs k2 eB)
    (h6 : Calls Tryf.prog 6 #[.int .u8 k, .string s] w fun e w' => e = .returned (.iface 38 (.pointer (some iA))) ∧ w1 = w')
    (h6b : Calls Tryf.prog 6 #[.int .u8 k2, .string s2] w1 fun e w' => e = .returned (.iface 38 (.pointer (some iB))) ∧ w2 = w')
    (h7 : Calls Tryf.prog 7 #[.iface 38 (.pointer (some iA))] w2 fun e w3 => ∃ oA, e = .returned (.iface 42 (.pointer (some ⟨oA, 0, none⟩))) ∧
      Hid ((Calls Tryf.prog 7 #[.iface 38 (.pointer (some iB))] w3 fun e w4 => ∃ oB, e = .returned (.iface 42 (.pointer (some ⟨oB, 0, none⟩))) ∧ Hid (Asked4 w4 iA iB oA oB eA eB ∧ Below w.heap.size w w4)) ∧ True)) :
    Calls Tryf.prog 4 #[.int .u8 k, .string s, .int .u8 k2, .string s2] w fun e w' => e = .returned (.bool true) ∧ Below w.heap.size w w' := by
  have H6 := mkHid h6
  have H6b := mkHid h6b
  have H7 := mkHid h7
  clear h6 h6b h7
  rcases hk with ⟨a0, rfl⟩ | ⟨a0, a1, rfl⟩ | ⟨a0, a1, rfl⟩
  all_goals rcases hk2 with ⟨b0, rfl⟩ | ⟨b0, b1, rfl⟩ | ⟨b0, b1, rfl⟩
  all_goals
    go_enter Tryf.func4, Tryf.ntmps4
    go_wp2_with (go_at_call 12; refine (bytes12 _ _ _ _ _ hn).mono ?_; rintro e w' ⟨rfl, rfl⟩)
    refine H6.out.mono ?_
    rintro e w' ⟨rfl, rfl⟩
    go_wp2_with fail
    refine H6b.out.mono ?_
    rintro e w' ⟨rfl, rfl⟩
    go_wp2_with fail
    refine H7.out.mono ?_
    rintro e w3 ⟨oA, rfl, HO⟩
    go_wp2_with fail
    refine (HO.out.1).mono ?_
    rintro e w4 ⟨oB, rfl, HA⟩
    go_wp2_with fail
    refine (HA.out.1.mA).mono ?_
    rintro e w5 ⟨rfl, rfl⟩
    go_wp2_with fail
    refine (HA.out.1.mB).mono ?_
    rintro e w5 ⟨rfl, rfl⟩
    go_wp2_with fail
    refine (HA.out.1.aa).mono ?_
    rintro e w5 ⟨rfl, rfl⟩
    go_wp2_with fail
    refine (HA.out.1.bb).mono ?_
    rintro e w5 ⟨rfl, rfl⟩
    go_wp2_with fail
    refine (HA.out.1.ab).mono ?_
    rintro e w5 ⟨rfl, rfl⟩
    go_wp2_with fail
    refine (HA.out.1.ba).mono ?_
    rintro e w5 ⟨rfl, rfl⟩
    go_wp2_with fail
    refine (HA.out.1.backA).mono ?_
    rintro e w5 ⟨rfl, rfl⟩
    go_wp2_with fail
    refine (HA.out.1.backB).mono ?_
    rintro e w5 ⟨rfl, rfl⟩
    go_wp2_with fail
    refine (HA.out.1.oAB).mono ?_
    rintro e w5 ⟨rfl, rfl⟩
    go_wp2_with fail
    refine (HA.out.1.oBA).mono ?_
    rintro e w5 ⟨rfl, rfl⟩
    go_wp2_with fail
    go_ret
    exact ⟨rfl, HA.out.2⟩


/-- What zzCause hands back: an end of stream, or a fresh error. -/
structure Cause (w w1 : World) (e0 e1 i : Addr) (e : Bool) : Prop where
  below : Below w.heap.size w w1
  plain : Plain w1 i
  atEnd : e = true → i = e0 ∨ i = e1
  fresh : e = false → i.block = w.heap.size ∧ ∃ s, w1.cell? i = some (.string s)

theorem cause_any (k : Int) (s : ByteArray) (m e0 e1 : Addr) (w : World) (hS : Sent w m e0 e1) :
    ∃ i e w1, KindIs k e ∧ (Calls Tryf.prog 6 #[.int .u8 k, .string s] w fun x w' => x = .returned (.iface 38 (.pointer (some i))) ∧ w1 = w') ∧ Cause w w1 e0 e1 i e := by
  by_cases h0 : k = 0
  · subst h0
    exact ⟨e0, true, w, Or.inl ⟨rfl, rfl⟩, cause0 s _ w hS.g0, Below.refl _ _, hS.p0, fun _ => Or.inl rfl, fun h => by cases h⟩
  by_cases h1 : k = 1
  · subst h1
    exact ⟨e1, true, w, Or.inr (Or.inl ⟨rfl, rfl, rfl⟩), cause1 s _ w hS.g1, Below.refl _ _, hS.p1, fun _ => Or.inr rfl, fun h => by cases h⟩
  have k0 : (k == 0) = false := by simpa using h0
  have k1 : (k == 1) = false := by simpa using h1
  exact ⟨⟨w.heap.size, 0, none⟩, false, w.alloc (.cells #[.string s] 40), Or.inr (Or.inr ⟨k0, k1, rfl⟩), cause2 k s w k0 k1, (Below.refl _ _).alloc (Nat.le_refl _) _, ⟨_, _, heap_alloc_new w _⟩, (fun h => by cases h),
    fun _ => ⟨rfl, s, by rw [cell_of_row _ _ _ _ _ _ (heap_alloc_new w _)]; rfl⟩⟩

/-- What readError wraps. -/
def inner (m i : Addr) (e : Bool) : Addr := if e then m else i

theorem read_any (F : Interp) (m e0 e1 i : Addr) (e : Bool) (w w1 w2 : World) (hF : F.answers w2.tape) (hS : Sent w m e0 e1) (hC : Cause w w1 e0 e1 i e) (hb : Below w1.heap.size w1 w2) :
    Calls Tryf.prog 7 #[.iface 38 (.pointer (some i))] w2 (Out w2 (.iface 38 (.pointer (some (inner m i e))))) := by
  have hS2 := (hS.below hC.below).below hb
  cases e with
  | true => exact read_end F i m e0 e1 w2 hF hS2 (hC.atEnd rfl)
  | false =>
    obtain ⟨hi, t, ht⟩ := hC.fresh rfl
    have far : ∀ a : Addr, Plain w a → i ≠ a := fun a pa h => by
      have := pa.lt
      rw [← h, hi] at this
      exact Nat.lt_irrefl _ this
    exact read_plain F i m e0 e1 w2 hF hS2 (far e0 hS.p0) (far e1 hS.p1) (hC.plain.below hb) ⟨t, cell_below ht hb⟩

theorem law4_any (F : Interp) (k k2 : Int) (s s2 : ByteArray) (m e0 e1 : Addr) (w : World) (hF : F.answers w.tape) (hS : Sent w m e0 e1) (hm : s.size ≤ maxLen) (hm2 : s2.size ≤ maxLen) :
    Calls Tryf.prog 4 #[.int .u8 k, .string s, .int .u8 k2, .string s2] w fun e w' => e = .returned (.bool true) ∧ Below w.heap.size w w' := by
  by_cases hn : 1048576 < s.size + s2.size
  · exact law4_long k k2 s s2 w hn hm hm2
  obtain ⟨iA, eA, w1, kA, h6, cA⟩ := cause_any k s m e0 e1 w hS
  have hS1 := hS.below cA.below
  obtain ⟨iB, eB, w2, kB, h6b, cB⟩ := cause_any k2 s2 m e0 e1 w1 hS1
  have hS2 := hS1.below cB.below
  have hF2 : F.answers w2.tape := answers_below (answers_below hF cA.below) cB.below
  have hb2 : Below w.heap.size w w2 := cA.below.trans (cB.below.mono cA.below.size)
  refine law4_core k k2 s s2 iA iB eA eB w w1 w2 (by omega) kA kB h6 h6b ?_
  refine (read_any F m e0 e1 iA eA w w1 w2 hF2 hS cA cB.below).mono ?_
  rintro e w3 ⟨oA, rfl, _, hb3, hwA⟩
  refine ⟨oA, rfl, ?_, trivial⟩
  have hF3 := answers_below hF2 hb3
  refine (read_any F m e0 e1 iB eB w1 w2 w3 hF3 hS1 cB hb3).mono ?_
  rintro e w4 ⟨oB, rfl, hoB, hb4, hwB⟩
  have hlt : oA < w3.heap.size := hwA.plain.lt
  have pA4 := ((cA.plain.below cB.below).below hb3).below hb4
  have pB4 := (cB.plain.below hb3).below hb4
  have hS4 := (hS2.below hb3).below hb4
  have sz : w.heap.size ≤ w1.heap.size := cA.below.size
  have iAlt : iA.block < w1.heap.size := cA.plain.lt
  have mlt := hS.pm.lt
  have l0 := hS.p0.lt
  have l1 := hS.p1.lt
  have inA : Plain w4 (inner m iA eA) := by
    unfold inner
    split
    · exact hS4.pm
    · exact pA4
  have inB : Plain w4 (inner m iB eB) := by
    unfold inner
    split
    · exact hS4.pm
    · exact pB4
  -- an end of stream is not m; a fresh error is none of the old ones
  have endNe : ∀ i : Addr, (i = e0 ∨ i = e1) → m ≠ i := fun i h => by
    rcases h with rfl | rfl
    · exact hS.n0
    · exact hS.n1
  have mIA : m ≠ iA := by
    cases hA : eA with
    | true => exact endNe iA (cA.atEnd hA)
    | false => intro h; have := (cA.fresh hA).1; rw [← h] at this; omega
  have mIB : m ≠ iB := by
    cases hB : eB with
    | true => exact endNe iB (cB.atEnd hB)
    | false => intro h; have := (cB.fresh hB).1; rw [← h] at this; omega
  have xAB : inner m iA eA ≠ iB := by
    cases hA : eA with
    | true => exact mIB
    | false =>
      show iA ≠ iB
      have hiA := (cA.fresh hA).1
      cases hB : eB with
      | true => rcases cB.atEnd hB with rfl | rfl <;> (intro h; rw [h] at hiA; omega)
      | false => intro h; have := (cB.fresh hB).1; rw [← h] at this; omega
  have xBA : inner m iB eB ≠ iA := by
    cases hB : eB with
    | true => exact mIA
    | false =>
      show iB ≠ iA
      intro h
      have := (cB.fresh hB).1
      rw [h] at this
      omega
  refine ⟨oB, rfl, asked4_of hS4 pA4 pB4 inA inB (hwA.below hb4) hwB (by omega) ?_ ?_ ?_ ?_ xAB xBA, ?_⟩
  · cases eA
    · exact ⟨fun h => (by cases h), fun h => absurd h.symm mIA⟩
    · exact ⟨fun _ => rfl, fun _ => rfl⟩
  · cases eB
    · exact ⟨fun h => (by cases h), fun h => absurd h.symm mIB⟩
    · exact ⟨fun _ => rfl, fun _ => rfl⟩
  · cases eA
    · exact ⟨fun _ => rfl, fun _ => rfl⟩
    · exact ⟨fun h => (by cases h), fun h => absurd h mIA⟩
  · cases eB
    · exact ⟨fun _ => rfl, fun _ => rfl⟩
    · exact ⟨fun h => (by cases h), fun h => absurd h mIB⟩
  · exact hb2.trans ((hb3.mono hb2.size).trans (hb4.mono (Nat.le_trans hb2.size hb3.size)))
end Go.Proofs.Qxb6616701aFmt
