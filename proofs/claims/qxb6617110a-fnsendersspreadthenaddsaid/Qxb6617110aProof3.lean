/-
  The proof of the statement on spreading and adding, on the seat's shell.
-/
import Derived.Test.Qxb6617110aMain
import Derived.WalkKit
import Derived.ProofKit
import Derived.OpenShut
import Derived.ShutString
import Derived.ChangeOld
import Derived.Below
namespace Go.Proofs.Qxb6617110a.fnSendersSpreadThenAdd
open Go.ChangeShapes Go.WideShapes Go.ChangeAt Go.RowKit
open Go.ChangeMaps (open_string shut_string)
set_option linter.unusedVariables false

theorem own : ownKnob Try.prog.godebug = none := by kernel_rfl
theorem laidOut : laidOutB Try.prog = true := by kernel_rfl

/-- WHAT THE WALK IS TOLD OF A SLICE OF INTEGERS THAT CAME IN: it is nil; or it leads to a row of 'cap' cells, the numbers 'zs' (the first 'len' are its elements, the rest its spare room), each fitting its kind. -/
def IsRow (k : IntKind) (w : World) (a : Option Addr) (len cap : Nat) (zs : List Int) : Prop :=
  (a = none ∧ len = 0 ∧ cap = 0 ∧ zs = []) ∨
  ∃ x, a = some x ∧ len ≤ cap ∧ cap ≤ maxLen ∧ zs.length = cap ∧ (∀ i, i < zs.length → w.cell? (x.add i) = some (.int k (zs.getD i 0))) ∧ ∀ n ∈ zs, (Lit.int k n).wf = true

/-! ### STEP 1: THE WALK: the Go text returns true, AND WRITES NOTHING THAT WAS THERE: 'Below w.heap.size w w'' (Derived/Below.lean: '.refl', '.alloc', '.drew', '.setCell' at a new block, '.trans'). Open each 'IsRow' by 'rcases' AHEAD of 'go_enter'; part every test ahead of the walk. -/
theorem walk (a0 : Int) (a1 : Option Addr) (len1 cap1 : Nat) (z1 : List Int) (a2 : Option Addr) (len2 cap2 : Nat) (z2 : List Int) (a3 : Int) (a4 : Int) (w : World) (w0 : (Lit.int .i64 a0).wf = true) (w1 : IsRow .u32 w a1 len1 cap1 z1) (w2 : IsRow .u64 w a2 len2 cap2 z2) (w3 : (Lit.int .i64 a3).wf = true) (w4 : (Lit.int .i64 a4).wf = true) :
    Calls Try.prog 3 #[.int .i64 a0, .slice a1 len1 cap1, .slice a2 len2 cap2, .int .i64 a3, .int .i64 a4] w fun e w' => e = .returned (.bool true) ∧ Below w.heap.size w w' := by
  have m1 : len1 ≤ maxLen := by
    rcases w1 with ⟨_, rfl, _, _⟩ | ⟨x, _, h1, h2, _⟩
    · exact Nat.zero_le _
    · exact Nat.le_trans h1 h2
  have m2 : len2 ≤ maxLen := by
    rcases w2 with ⟨_, rfl, _, _⟩ | ⟨x, _, h1, h2, _⟩
    · exact Nat.zero_le _
    · exact Nat.le_trans h1 h2
  by_cases hE : 131072 < len1 ∨ 65536 < len2 ∨ a0 < 1 ∨ 4194304 < a0 ∨ a4 < 1 ∨ a0 < a4
  · exact early a0 a3 a4 a1 a2 len1 cap1 len2 cap2 w m1 m2 hE
  have hz : ∀ j, 0 ≤ z1.getD j 0 ∧ z1.getD j 0 ≤ 4294967295 := by
    intro j
    have hw : ∀ n ∈ z1, (Lit.int .u32 n).wf = true := by
      rcases w1 with ⟨_, _, _, rfl⟩ | ⟨x, _, _, _, _, _, h⟩
      · intro n hn; simp at hn
      · exact h
    by_cases hj : j < z1.length
    · have hm : z1.getD j 0 ∈ z1 := by
        rw [List.getD_eq_getElem?_getD, List.getElem?_eq_getElem hj]
        exact List.getElem_mem hj
      have hb : IntKind.u32.min ≤ z1.getD j 0 ∧ z1.getD j 0 ≤ IntKind.u32.max := by
        have := hw _ hm
        generalize z1.getD j 0 = v at this ⊢
        simpa [Lit.wf] using this
      have e1 : IntKind.u32.min = 0 := by decide
      have e2 : IntKind.u32.max = 4294967295 := by decide
      rw [e1, e2] at hb
      exact hb
    · have e : z1.getD j 0 = 0 := by
        rw [List.getD_eq_getElem?_getD, List.getElem?_eq_none (by omega)]
        rfl
      omega
  have rows : ∀ (k : IntKind) (a : Option Addr) (len cap : Nat) (zs : List Int), IsRow k w a len cap zs → RowIn k w (.slice a len cap) len (fun j => zs.getD j 0) := by
    intro k a len cap zs h
    rcases h with ⟨rfl, rfl, rfl, rfl⟩ | ⟨x, rfl, h1, h2, h3, h4, h5⟩
    · exact .inl ⟨rfl, rfl⟩
    · by_cases hc : cap = 0
      · obtain rfl : len = 0 := by omega
        exact .inr (.inl ⟨x, cap, rfl, rfl⟩)
      · obtain ⟨g, o, sp⟩ := x
        have h0 := h4 0 (by omega)
        have hsp : sp = none := by
          cases sp with
          | none => rfl
          | some y =>
            exfalso
            have e0 : Addr.add ⟨g, o, some y⟩ 0 = ⟨g, o, some y⟩ := rfl
            rw [e0] at h0
            unfold World.cell? at h0
            split at h0
            · simp at h0
            · cases h0
        subst hsp
        refine .inr (.inr ⟨g, o, cap, rfl, ?_, fun j hj => ?_⟩)
        · refine Nat.lt_of_not_le fun hg => ?_
          have e0 : w.heap[g]? = none := by rw [Array.getElem?_eq_none]; exact hg
          rw [Addr.add_lit] at h0
          unfold World.cell? at h0
          rw [e0] at h0
          cases h0
        · have := h4 j (by omega)
          rw [Addr.add_lit] at this
          exact this
  have hp : a4 = (((a4 - 1).toNat : Nat) : Int) + 1 := by omega
  rw [hp]
  refine main (fun j => (z1.getD j 0 - 1).toNat) (a4 - 1).toNat (fun j => z2.getD j 0) a0 a3 _ _ a1 a2 len1 cap1 len2 cap2 ((a0 + 63) / 64).toNat w rfl rfl (by omega) (by omega) (by omega) (by omega) (by omega) (by omega) (fun j => ?_) (fun j => z1.getD j 0) hz (fun hW j hj => ?_) (rows _ _ _ _ _ w1) (rows _ _ _ _ _ w2)
  · have := hz j
    show (((z1.getD j 0 - 1).toNat : Nat) : Int) + 1 ≤ 4294967295
    omega
  · have h : 1 ≤ z1.getD j 0 := (hW.within j hj).1
    show z1.getD j 0 = (((z1.getD j 0 - 1).toNat : Nat) : Int) + 1
    omega

/-! ### THE ROW's STEP: WRITTEN OUT: LEAVE IT -/
set_option maxRecDepth 100000 in
theorem lifted (os : Os) (started : os.Started) (H : Type) (enc : TypeId × Value → H) :
    ReturnsInHanded {} Try.checked os 3 .any (Rows.fnSendersSpreadThenAddSpec.pre6 enc Try.prog Try.f3 Rows.fnSendersSpreadThenAddRow.domain false) (Rows.fnSendersSpreadThenAddSpec.post enc Try.prog Try.f3 false true false false) := by
  refine returnsInHanded_of_change (C := Try.checked) own started (by kernel_rfl) Try.func3
    (ChangeSpec.witness6 (enc := enc) (C := Try.checked) false ⟨#[], #[.int .i64 0, .slice none 0 0, .slice none 0 0, .int .i64 0, .int .i64 0], []⟩ 8 (by kernel_rfl) (by kernel_rfl) (by kernel_rfl) (by kernel_rfl)) ?_
  intro W base args ds gs before hval0 hW hcnd _
  have hval : ∀ (j : Nat) t v, Try.f3.params[j]? = some t → args[j]? = some v → Value.okWide Try.prog W .any base t v := hval0
  have hW' := hW
  obtain ⟨p, q, hA0, hV, rfl, hfz, hnd⟩ := hW
  have hA : DataW.TrodAll enc Try.prog W 0 (fun _ => true) true Try.f3.params.toList args.toList ds p := hA0
  rw [Try.params3] at hA hval
  obtain ⟨v0, vs0, d0, ds0, p0, q0, hargs, rfl, rfl, h0, r0⟩ := trodAll_cons hA
  obtain ⟨v1, vs1, d1, ds1, p1, q1, rfl, rfl, rfl, h1, r1⟩ := trodAll_cons r0
  obtain ⟨v2, vs2, d2, ds2, p2, q2, rfl, rfl, rfl, h2, r2⟩ := trodAll_cons r1
  obtain ⟨v3, vs3, d3, ds3, p3, q3, rfl, rfl, rfl, h3, r3⟩ := trodAll_cons r2
  obtain ⟨v4, vs4, d4, ds4, p4, q4, rfl, rfl, rfl, h4, r4⟩ := trodAll_cons r3
  obtain ⟨rfl, rfl, rfl⟩ := trodAll_nil r4
  obtain rfl : args = #[v0, v1, v2, v3, v4] := by cases args; simp_all
  obtain ⟨rfl, rfl⟩ := trodVars_none hV
  obtain ⟨a0, rfl, rfl, rfl, w0⟩ := open_int Try.underlying3 (hval 0 3 v0 rfl rfl) h0
  obtain ⟨a1, len1, cap1, rfl⟩ := okWide_slice Try.underlying22 (hval 1 22 v1 rfl rfl)
  have k1 := h1
  have lt1 : ∀ x ∈ p1, x.block < W.heap.size := by obtain ⟨m, hm⟩ := k1; exact DataW.trod_lt m _ _ _ hm
  obtain ⟨z1, w1⟩ : ∃ zs, IsRow .u32 W a1 len1 cap1 zs := by
    obtain ⟨fuel, hf⟩ := h1
    rcases open_ints Try.underlying22 Try.underlying46 (by kernel_rfl) hf with ⟨hcs, _⟩ | ⟨x, l, c, zs, hcs, _, hl, hm, hz, _, hcell, hwz⟩
    · simp [Value.cells] at hcs
      obtain ⟨rfl, rfl, rfl⟩ := hcs
      exact ⟨[], .inl ⟨rfl, rfl, rfl, rfl⟩⟩
    · simp [Value.cells] at hcs
      obtain ⟨rfl, rfl, rfl⟩ := hcs
      exact ⟨zs, .inr ⟨_, rfl, hl, hm, by simpa using hz, hcell, hwz⟩⟩
  obtain ⟨a2, len2, cap2, rfl⟩ := okWide_slice Try.underlying23 (hval 2 23 v2 rfl rfl)
  have k2 := h2
  have lt2 : ∀ x ∈ p2, x.block < W.heap.size := by obtain ⟨m, hm⟩ := k2; exact DataW.trod_lt m _ _ _ hm
  obtain ⟨z2, w2⟩ : ∃ zs, IsRow .u64 W a2 len2 cap2 zs := by
    obtain ⟨fuel, hf⟩ := h2
    rcases open_ints Try.underlying23 Try.underlying47 (by kernel_rfl) hf with ⟨hcs, _⟩ | ⟨x, l, c, zs, hcs, _, hl, hm, hz, _, hcell, hwz⟩
    · simp [Value.cells] at hcs
      obtain ⟨rfl, rfl, rfl⟩ := hcs
      exact ⟨[], .inl ⟨rfl, rfl, rfl, rfl⟩⟩
    · simp [Value.cells] at hcs
      obtain ⟨rfl, rfl, rfl⟩ := hcs
      exact ⟨zs, .inr ⟨_, rfl, hl, hm, by simpa using hz, hcell, hwz⟩⟩
  obtain ⟨a3, rfl, rfl, rfl, w3⟩ := open_int Try.underlying3 (hval 3 3 v3 rfl rfl) h3
  obtain ⟨a4, rfl, rfl, rfl, w4⟩ := open_int Try.underlying3 (hval 4 3 v4 rfl rfl) h4
  clear hA0 hval0
  refine (walk a0 a1 len1 cap1 z1 a2 len2 cap2 z2 a3 a4 W w0 w1 w2 w3 w4).mono fun e W' ⟨he, bel⟩ => ?_
  subst he
  exact ⟨_, rfl, _, _, _, [], _, [], hW', trodAll_mk1 (shut_bool Try.underlying4 _), (trodAll_cons_mk (shut_int Try.underlying3 w0) (trodAll_cons_mk (Below.trod laidOut (by kernel_rfl) (of_decide_eq_true (by kernel_rfl)) k1 bel lt1) (trodAll_cons_mk (Below.trod laidOut (by kernel_rfl) (of_decide_eq_true (by kernel_rfl)) k2 bel lt2) (trodAll_cons_mk (shut_int Try.underlying3 w3) (trodAll_cons_mk (shut_int Try.underlying3 w4) trodAll_mk0))))), rfl, bel.frame _, fun h => by cases h⟩

theorem over : Rows.fnSendersSpreadThenAddRow.holds Try.pinned (OpenSpec.ofChange Rows.fnSendersSpreadThenAddSpec) :=
  OpenClaim.holds_of_wide 3 Try.f3 rfl rfl rfl rfl rfl rfl rfl ⟨rfl, rfl, rfl, rfl, rfl⟩ rfl rfl rfl rfl rfl (by kernel_rfl) Try.func3 (by kernel_rfl)
    (of_decide_eq_true (by kernel_rfl)) (by unfold Func.isWrapper; first | (rw [if_pos (by decide +kernel)]; kernel_rfl) | (rw [if_neg (by decide +kernel)]; exact ⟨rfl, rfl⟩))
    (fun os started H enc _ => lifted os started H enc)

/-- ████ THE STATEMENT ████ -/
theorem proved : Rows.FnSendersSpreadThenAddSaid := over
end Go.Proofs.Qxb6617110a.fnSendersSpreadThenAdd
