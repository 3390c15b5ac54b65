import Derived.Test.Qxb6616658aFmtAll6
import Derived.Test.Qxb6616658aFmtBase
namespace Go.Proofs.Qxb6616658aFmt
open Go.ChangeShapes Go.WideShapes Go.ChangeAt Go.RowKit Go.Kit
open Go.Extern.Stop Go.Stop Go.Extern

theorem witness6_row (os : Os) {H : Type} (enc : TypeId × Value → H) :
    (OpenSpec.ofChange Rows.fnNewWriterKeepsOrderAndResolutionSpec).preRow enc Tryf.prog Tryf.f6 [] false Rows.fnNewWriterKeepsOrderAndResolutionRow.laid ((World.doorLaid Tryf.prog 104 os).forCall (fun _ _ => 0) ⟨#[], #[.slice none 0 0, .int .u32 0, .int .u64 0, .int .u32 0, .slice none 0 0], []⟩).memory #[.slice none 0 0, .int .u32 0, .int .u64 0, .int .u32 0, .slice none 0 0] := by
  have hw : (DataW.whole enc Tryf.prog ((World.doorLaid Tryf.prog 104 os).forCall (fun _ _ => 0) ⟨#[], #[.slice none 0 0, .int .u32 0, .int .u64 0, .int .u32 0, .slice none 0 0], []⟩).memory Tryf.f6.params.toList (OpenSpec.ofChange Rows.fnNewWriterKeepsOrderAndResolutionSpec).vars false #[Value.slice none 0 0, .int .u32 0, .int .u64 0, .int .u32 0, .slice none 0 0].toList 8).map (fun x => (x.1, x.2.1)) =
      some ([.nil, .lit (.int .u32 0), .lit (.int .u64 0), .lit (.int .u32 0), .nil], []) := by kernel_rfl
  obtain ⟨⟨x1, x2, x3⟩, hx, hx1⟩ := Option.map_eq_some_iff.1 hw
  simp only [Prod.mk.injEq] at hx1
  obtain ⟨rfl, rfl⟩ := hx1
  exact OpenSpec.preRow_of_cond 8 hx (by kernel_rfl) (fun k hk => by cases hk) (by kernel_rfl) (door_met os _)

/-- A slice of bytes off the call's own input. -/
theorem bytes_in {H : Type} {enc : TypeId × Value → H} {W : World} {s : Option Addr} {len cap : Nat} {d : DataW H} {p : List MemPlace}
    (h : DataW.Trod enc Tryf.prog W 0 (fun _ => true) true 22 (.slice s len cap) d p) : len ≤ maxLen ∧ ∃ x : Nat → Int, (∀ j, 0 ≤ x j ∧ x j ≤ 255) ∧ BytesIn W s len cap x := by
  obtain ⟨fuel, hf⟩ := h
  rcases open_ints Tryf.underlying22 Tryf.underlying5 Tryf.cells5 hf with ⟨hcs, hx⟩ | ⟨a, len', cap', zs, hcs, _, hl, hm, hz, hx, hcell, hwz⟩
  · simp [Value.cells] at hcs
    obtain ⟨rfl, rfl, rfl⟩ := hcs
    exact ⟨Nat.zero_le _, fun _ => 0, fun _ => ⟨by show (0 : Int) ≤ 0; omega, by show (0 : Int) ≤ 255; omega⟩, Or.inl ⟨rfl, rfl, rfl⟩⟩
  · simp [Value.cells] at hcs
    obtain ⟨rfl, rfl, rfl⟩ := hcs
    simp only [if_true] at hz
    refine ⟨Nat.le_trans hl hm, fun j => zs[j]?.getD 0, fun j => range_u8 hwz j, Or.inr ⟨a, rfl, ?_⟩⟩
    by_cases hzero : len = 0
    · exact Or.inl hzero
    · obtain ⟨b, off, rfl, hc⟩ := ints_at hcell (by omega)
      refine Or.inr ⟨b, off, rfl, block_lt_of_cell (hc 0 (by omega)), fun j hj => ?_⟩
      have := hc j (by omega)
      simpa [List.getD] using this

set_option maxRecDepth 100000 in
theorem t6_lifted (os : Os) (started : os.Started) (H : Type) (enc : TypeId × Value → H) :
    ReturnsInTold none {} Tryf.checked os 6 .any Input.okWide ((OpenSpec.ofChange Rows.fnNewWriterKeepsOrderAndResolutionSpec).preRow enc Tryf.prog Tryf.f6 [] false Rows.fnNewWriterKeepsOrderAndResolutionRow.laid) (fun F => ((OpenSpec.ofChange Rows.fnNewWriterKeepsOrderAndResolutionSpec).at F).post enc Tryf.prog Tryf.f6 false true false false) (aloneAtReturn Tryf.prog) nothingAlways := by
  refine returnsInTold_of_row (C := Tryf.checked) (s := OpenSpec.ofChange Rows.fnNewWriterKeepsOrderAndResolutionSpec) (by kernel_rfl) Tryf.own started (by kernel_rfl) Tryf.func6
    (OpenSpec.witness_stopped_atRef (enc := enc) (C := Tryf.checked) false (World.doorLaid Tryf.prog 104 os) #[.slice none 0 0, .int .u32 0, .int .u64 0, .int .u32 0, .slice none 0 0] rfl (by kernel_rfl) (by kernel_rfl) (by kernel_rfl) (witness6_row os enc)) ?_
  intro F W base args ds gs before _ hF hval0 hW _ _ hsz hL _
  have hval : ∀ (j : Nat) t v, Tryf.f6.params[j]? = some t → args[j]? = some v → Value.okWide Tryf.prog W .any base t v := hval0
  have hW' := hW
  obtain ⟨p, q, hA0, hV, rfl, _, _⟩ := hW
  have hA : DataW.TrodAll enc Tryf.prog W 0 (fun _ => true) true Tryf.f6.params.toList args.toList ds p := hA0
  rw [Tryf.params6] at hA hval
  obtain ⟨v0, vs0, d0, ds0, p0, q0, hargs, rfl, rfl, h0, r0⟩ := trodAll_cons hA
  obtain ⟨v1, vs1, d1, ds1, p1, q1, rfl, rfl, rfl, h1, r1⟩ := trodAll_cons r0
  obtain ⟨v2, vs2, d2, ds2, p2, q2, rfl, rfl, rfl, h2, r2⟩ := trodAll_cons r1
  obtain ⟨v3, vs3, d3, ds3, p3, q3, rfl, rfl, rfl, h3, r3⟩ := trodAll_cons r2
  obtain ⟨v4, vs4, d4, ds4, p4, q4, rfl, rfl, rfl, h4, r4⟩ := trodAll_cons r3
  obtain ⟨rfl, rfl, rfl⟩ := trodAll_nil r4
  obtain rfl : args = #[v0, v1, v2, v3, v4] := by cases args; simp_all
  obtain ⟨rfl, rfl⟩ := trodVars_none hV
  obtain ⟨a0, len, cap, rfl⟩ := okWide_slice Tryf.underlying22 (hval 0 22 v0 rfl rfl)
  obtain ⟨sec, rfl, rfl, rfl, w1⟩ := open_int Tryf.underlying25 (hval 1 25 v1 rfl rfl) h1
  obtain ⟨nsec, rfl, rfl, rfl, w2⟩ := open_int Tryf.underlying49 (hval 2 49 v2 rfl rfl) h2
  obtain ⟨orig, rfl, rfl, rfl, w3⟩ := open_int Tryf.underlying25 (hval 3 25 v3 rfl rfl) h3
  obtain ⟨a4, nd, cd, rfl⟩ := okWide_slice Tryf.underlying22 (hval 4 22 v4 rfl rfl)
  have lt0 : ∀ x ∈ p0, x.block < W.heap.size := by obtain ⟨m, hm⟩ := h0; exact DataW.trod_lt m _ _ _ hm
  have lt4 : ∀ x ∈ p4, x.block < W.heap.size := by obtain ⟨m, hm⟩ := h4; exact DataW.trod_lt m _ _ _ hm
  obtain ⟨m0, x, hx, b0⟩ := bytes_in h0
  obtain ⟨m4, y, _, b4⟩ := bytes_in h4
  clear hA0 hval0
  obtain ⟨e0, e1, hS⟩ := sent_of_laid hL
  have walk : Calls Tryf.prog 6 #[.slice a0 len cap, .int .u32 sec, .int .u64 nsec, .int .u32 orig, .slice a4 nd cd] W fun e w' => e = .returned (.bool true) ∧ Below W.heap.size W w' := by
    by_cases hlong : 1048576 < len + nd
    · exact f6_long a0 a4 len cap nd cd sec nsec orig W m0 m4 hlong
    · have r1 := bounds_u32 w1
      have r2 := bounds_u64 w2
      have r3 := bounds_u32 w3
      exact f6_all F.told x y a0 a4 len cap nd cd sec nsec orig W e0 e1 hF hS hx (by omega) r1.1 r1.2 r3.1 r3.2 r2.1 r2.2 b0 b4
  refine walk.mono fun e W' ⟨he, bel⟩ => ?_
  subst he
  exact ⟨_, rfl, _, _, _, [], _, [], hW', trodAll_mk1 (shut_bool Tryf.underlying4 true), (trodAll_cons_mk (Below.trod Tryf.laidOut (by kernel_rfl) (of_decide_eq_true (by kernel_rfl)) h0 bel lt0) (trodAll_cons_mk (shut_int Tryf.underlying25 w1) (trodAll_cons_mk (shut_int Tryf.underlying49 w2) (trodAll_cons_mk (shut_int Tryf.underlying25 w3) (trodAll_cons_mk (Below.trod Tryf.laidOut (by kernel_rfl) (of_decide_eq_true (by kernel_rfl)) h4 bel lt4) trodAll_mk0))))), rfl, bel.frame _, fun h => by cases h⟩

theorem t6_holds : Rows.FnNewWriterKeepsOrderAndResolutionToldSaid :=
  Claim7.holds_of_told_tied_any_at .later 6 Tryf.f6 "fmt.errorf" [] [] _ _ _ _ _ (by kernel_rfl) rfl rfl rfl Tryf.laidOut (by kernel_rfl) rfl ⟨rfl, rfl, rfl, rfl, rfl, rfl, rfl⟩ rfl rfl (by kernel_rfl) (by kernel_rfl) Tryf.func6 (by kernel_rfl)
    (of_decide_eq_true (by kernel_rfl)) (by unfold Func.isWrapper; first | (rw [if_pos (by decide +kernel)]; kernel_rfl) | (rw [if_neg (by decide +kernel)]; exact ⟨rfl, rfl⟩)) Tryf.stops.symm rfl Tryf.stopKnobs.symm (by kernel_rfl)
    (by kernel_rfl) (by kernel_rfl) (by kernel_rfl) (by kernel_rfl) (by kernel_rfl) (by kernel_rfl) (by kernel_rfl) (by kernel_rfl) (by kernel_rfl) rfl (by kernel_rfl) rfl rfl
    rfl rfl
    rfl (by kernel_rfl) (by kernel_rfl) (by kernel_rfl) (by decide) (by kernel_rfl) fnNewWriterKeepsOrderAndResolution_row_tie
    (OpenClaim.moreEntering_of (by kernel_rfl) (by kernel_rfl) (by kernel_rfl) (by kernel_rfl) (by kernel_rfl) (by kernel_rfl) (by kernel_rfl) (by kernel_rfl) (by kernel_rfl) (by kernel_rfl))
    ⟨_, WideRow.started_initial, Tryf.quiet _⟩
    (fun os started _ H enc _ => t6_lifted os started H enc)
end Go.Proofs.Qxb6616658aFmt
