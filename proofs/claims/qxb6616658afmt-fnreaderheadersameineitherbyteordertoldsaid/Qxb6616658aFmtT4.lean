import Derived.Test.Qxb6616658aFmtAll4
import Derived.Test.Qxb6616658aFmtBase
namespace Go.Proofs.Qxb6616658aFmt
open Go.ChangeShapes Go.WideShapes Go.ChangeAt Go.RowKit Go.Kit
open Go.Extern.Stop Go.Stop Go.Extern

theorem witness4_row (os : Os) {H : Type} (enc : TypeId × Value → H) :
    (OpenSpec.ofChange Rows.fnReaderHeaderSameInEitherByteOrderSpec).preRow enc Tryf.prog Tryf.f4 [] false Rows.fnReaderHeaderSameInEitherByteOrderRow.laid ((World.doorLaid Tryf.prog 104 os).forCall (fun _ _ => 0) ⟨#[], #[.slice none 0 0], []⟩).memory #[.slice none 0 0] := by
  have hw : (DataW.whole enc Tryf.prog ((World.doorLaid Tryf.prog 104 os).forCall (fun _ _ => 0) ⟨#[], #[.slice none 0 0], []⟩).memory Tryf.f4.params.toList (OpenSpec.ofChange Rows.fnReaderHeaderSameInEitherByteOrderSpec).vars false #[Value.slice none 0 0].toList 8).map (fun x => (x.1, x.2.1)) =
      some ([.nil], []) := by kernel_rfl
  obtain ⟨⟨x1, x2, x3⟩, hx, hx1⟩ := Option.map_eq_some_iff.1 hw
  simp only [Prod.mk.injEq] at hx1
  obtain ⟨rfl, rfl⟩ := hx1
  exact OpenSpec.preRow_of_cond 8 hx (by kernel_rfl) (fun k hk => by cases hk) (by kernel_rfl) (door_met os _)

set_option maxRecDepth 100000 in
theorem t4_lifted (os : Os) (started : os.Started) (H : Type) (enc : TypeId × Value → H) :
    ReturnsInTold none {} Tryf.checked os 4 .any Input.okWide ((OpenSpec.ofChange Rows.fnReaderHeaderSameInEitherByteOrderSpec).preRow enc Tryf.prog Tryf.f4 [] false Rows.fnReaderHeaderSameInEitherByteOrderRow.laid) (fun F => ((OpenSpec.ofChange Rows.fnReaderHeaderSameInEitherByteOrderSpec).at F).post enc Tryf.prog Tryf.f4 false true false false) (aloneAtReturn Tryf.prog) nothingAlways := by
  refine returnsInTold_of_row (C := Tryf.checked) (s := OpenSpec.ofChange Rows.fnReaderHeaderSameInEitherByteOrderSpec) (by kernel_rfl) Tryf.own started (by kernel_rfl) Tryf.func4
    (OpenSpec.witness_stopped_atRef (enc := enc) (C := Tryf.checked) false (World.doorLaid Tryf.prog 104 os) #[.slice none 0 0] rfl (by kernel_rfl) (by kernel_rfl) (by kernel_rfl) (witness4_row os enc)) ?_
  intro F W base args ds gs before _ hF hval0 hW _ _ hsz hL _
  have hval : ∀ (j : Nat) t v, Tryf.f4.params[j]? = some t → args[j]? = some v → Value.okWide Tryf.prog W .any base t v := hval0
  have hW' := hW
  obtain ⟨p, q, hA0, hV, rfl, _, _⟩ := hW
  have hA : DataW.TrodAll enc Tryf.prog W 0 (fun _ => true) true Tryf.f4.params.toList args.toList ds p := hA0
  rw [Tryf.params4] at hA hval
  obtain ⟨v0, d0, rfl, rfl, h0⟩ := trodAll_one hA
  obtain ⟨rfl, rfl⟩ := trodVars_none hV
  obtain ⟨a0, len, cap, rfl⟩ := okWide_slice Tryf.underlying22 (hval 0 22 v0 rfl rfl)
  have h0k := h0
  obtain ⟨fuel, hf⟩ := h0
  clear hA0 hval0
  simp only [List.append_nil] at hW'
  have hlt : ∀ x ∈ p, x.block < W.heap.size := fun x hx => by simpa using hW'.lt x hx
  have hargs : ∀ (W' : World), Below W.heap.size W W' → DataW.Trod enc Tryf.prog W' 0 (fun b => decide (b < W.heap.size)) true 22 (.slice a0 len cap) d0 p :=
    fun W' hn => Below.trod Tryf.laidOut (by kernel_rfl) (of_decide_eq_true (by kernel_rfl)) h0k hn hlt
  obtain ⟨e0, e1, hS⟩ := sent_of_laid hL
  have walk : Calls Tryf.prog 4 #[.slice a0 len cap] W fun e w' => e = .returned (.bool true) ∧ Below W.heap.size W w' := by
    rcases open_ints Tryf.underlying22 Tryf.underlying5 Tryf.cells5 hf with ⟨hcs, hx⟩ | ⟨a, len', cap', zs, hcs, _, hl, hm, hz, hx, hcell, hwz⟩
    · simp [Value.cells] at hcs
      obtain ⟨rfl, rfl, rfl⟩ := hcs
      exact f4_nil W e0 e1 hS
    · simp [Value.cells] at hcs
      obtain ⟨rfl, rfl, rfl⟩ := hcs
      simp only [if_true] at hz
      by_cases hlong : 1048576 < len
      · exact f4_long _ len cap W hlong (by omega)
      · by_cases hzero : len = 0
        · subst hzero
          exact f4_zero F.told a cap W e0 e1 hF hS
        · obtain ⟨b, off, rfl, hc⟩ := ints_at hcell (by omega)
          have hr := range_u8 hwz
          refine f4_some F.told (fun j => zs[j]?.getD 0) b off len cap W e0 e1 hF hS (fun j => hr j) (by omega) (block_lt_of_cell (hc 0 (by omega))) (fun j hj => ?_)
          have := hc j (by omega)
          simpa [List.getD] using this
  refine walk.mono fun e W' ⟨he, hb⟩ => ?_
  subst he
  refine ⟨_, rfl, _, _, _, [], p, [], hW', trodAll_mk1 (shut_bool Tryf.underlying4 true), trodAll_mk1 (hargs _ hb), rfl, hb.frame _, fun h => by cases h⟩

theorem t4_holds : Rows.FnReaderHeaderSameInEitherByteOrderToldSaid :=
  Claim7.holds_of_told_tied_any_at .later 4 Tryf.f4 "fmt.errorf" [] [] _ _ _ _ _ (by kernel_rfl) rfl rfl rfl Tryf.laidOut (by kernel_rfl) rfl ⟨rfl, rfl, rfl, rfl, rfl, rfl, rfl⟩ rfl rfl (by kernel_rfl) (by kernel_rfl) Tryf.func4 (by kernel_rfl)
    (of_decide_eq_true (by kernel_rfl)) (by unfold Func.isWrapper; first | (rw [if_pos (by decide +kernel)]; kernel_rfl) | (rw [if_neg (by decide +kernel)]; exact ⟨rfl, rfl⟩)) Tryf.stops.symm rfl Tryf.stopKnobs.symm (by kernel_rfl)
    (by kernel_rfl) (by kernel_rfl) (by kernel_rfl) (by kernel_rfl) (by kernel_rfl) (by kernel_rfl) (by kernel_rfl) (by kernel_rfl) (by kernel_rfl) rfl (by kernel_rfl) rfl rfl
    rfl rfl
    rfl (by kernel_rfl) (by kernel_rfl) (by kernel_rfl) (by decide) (by kernel_rfl) fnReaderHeaderSameInEitherByteOrder_row_tie
    (OpenClaim.moreEntering_of (by kernel_rfl) (by kernel_rfl) (by kernel_rfl) (by kernel_rfl) (by kernel_rfl) (by kernel_rfl) (by kernel_rfl) (by kernel_rfl) (by kernel_rfl) (by kernel_rfl))
    ⟨_, WideRow.started_initial, Tryf.quiet _⟩
    (fun os started _ H enc _ => t4_lifted os started H enc)
end Go.Proofs.Qxb6616658aFmt
