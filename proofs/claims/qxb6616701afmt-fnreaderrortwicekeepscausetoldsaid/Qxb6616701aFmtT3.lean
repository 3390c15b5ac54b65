import Derived.Test.Qxb6616701aFmtLaw3
import Derived.Test.Qxb6616701aFmtBase
namespace Go.Proofs.Qxb6616701aFmt
open Go.ChangeShapes Go.WideShapes Go.ChangeAt Go.RowKit Go.Kit
open Go.ChangeMaps (open_string shut_string)
open Go.Extern.Stop Go.Stop Go.Extern

theorem witness3_row (os : Os) {H : Type} (enc : TypeId × Value → H) :
    (OpenSpec.ofChange Rows.fnReadErrorTwiceKeepsCauseSpec).preRow enc Tryf.prog Tryf.f3 [] false Rows.fnReadErrorTwiceKeepsCauseRow.laid ((World.doorLaid Tryf.prog 66 os).forCall (fun _ _ => 0) ⟨#[], #[.int .u8 0, .string ⟨#[]⟩], []⟩).memory #[.int .u8 0, .string ⟨#[]⟩] := by
  have hw : (DataW.whole enc Tryf.prog ((World.doorLaid Tryf.prog 66 os).forCall (fun _ _ => 0) ⟨#[], #[.int .u8 0, .string ⟨#[]⟩], []⟩).memory Tryf.f3.params.toList (OpenSpec.ofChange Rows.fnReadErrorTwiceKeepsCauseSpec).vars false (#[.int .u8 0, .string ⟨#[]⟩] : Array Value).toList 8).map (fun x => x.1) =
      some [.lit (.int .u8 0), .lit (.string [])] := by kernel_rfl
  obtain ⟨⟨x1, x2, x3⟩, hx, hx1⟩ := Option.map_eq_some_iff.1 hw
  exact OpenSpec.preRow_of_cond 8 hx (by kernel_rfl) (fun k hk => by cases hk) (by kernel_rfl) (door_met os _)

set_option maxRecDepth 100000 in
theorem t3_lifted (os : Os) (started : os.Started) (H : Type) (enc : TypeId × Value → H) :
    ReturnsInTold none {} Tryf.checked os 3 .any Input.okWide ((OpenSpec.ofChange Rows.fnReadErrorTwiceKeepsCauseSpec).preRow enc Tryf.prog Tryf.f3 [] false Rows.fnReadErrorTwiceKeepsCauseRow.laid) (fun F => ((OpenSpec.ofChange Rows.fnReadErrorTwiceKeepsCauseSpec).at F).post enc Tryf.prog Tryf.f3 false true false false) (aloneAtReturn Tryf.prog) nothingAlways := by
  refine returnsInTold_of_row (C := Tryf.checked) (s := OpenSpec.ofChange Rows.fnReadErrorTwiceKeepsCauseSpec) (by kernel_rfl) Tryf.own started (by kernel_rfl) Tryf.func3
    (OpenSpec.witness_stopped_atRef (enc := enc) (C := Tryf.checked) false (World.doorLaid Tryf.prog 66 os) #[.int .u8 0, .string ⟨#[]⟩] rfl (by kernel_rfl) (by kernel_rfl) (by kernel_rfl) (witness3_row os enc)) ?_
  intro F W base args ds gs before _ hF hval0 hW _ _ _ hL _
  have hval : ∀ (j : Nat) t v, Tryf.f3.params[j]? = some t → args[j]? = some v → Value.okWide Tryf.prog W .any base t v := hval0
  have hW' := hW
  obtain ⟨p, q, hA0, hV0, rfl, _, _⟩ := hW
  have hA : DataW.TrodAll enc Tryf.prog W 0 (fun _ => true) true Tryf.f3.params.toList args.toList ds p := hA0
  have hV : DataW.TrodVars enc Tryf.prog W (fun _ => true) Rows.fnReadErrorTwiceKeepsCauseSpec.vars gs q := hV0
  rw [Tryf.params3] at hA hval
  obtain ⟨v0, v1, d0, d1, p0, p1, rfl, rfl, rfl, h0, h1⟩ := trodAll_two hA
  obtain ⟨k, rfl, rfl, rfl, wk⟩ := open_int Tryf.underlying5 (hval 0 5 v0 rfl rfl) h0
  obtain ⟨s, rfl, rfl, rfl, ws⟩ := open_string Tryf.underlying9 (hval 1 9 v1 rfl rfl) h1
  obtain ⟨m, e0, e1, hS, hvars⟩ := sent_of_laid hL
  obtain ⟨rfl, rfl⟩ := hV.unique (hvars H enc W _ (Below.refl _ _))
  clear hA0 hV0 hval0
  refine (law3_any F.told k s m e0 e1 W hF hS ws).mono fun e W' ⟨he, hb⟩ => ?_
  subst he
  exact ⟨_, rfl, _, _, _, [], [], [.cell 0 0], hW', trodAll_mk1 (shut_bool Tryf.underlying4 true), trodAll_mk2 (shut_int Tryf.underlying5 wk) (shut_string Tryf.underlying9 ws), hvars H enc W' _ hb, hb.frame _, fun h => by cases h⟩

theorem t3_holds : Rows.FnReadErrorTwiceKeepsCauseToldSaid :=
  Claim7.holds_of_told_tied_any_at .later 3 Tryf.f3 "fmt.errorf" [] [] _ _ _ _ _ (by kernel_rfl) rfl rfl rfl Tryf.laidOut (by kernel_rfl) rfl ⟨rfl, rfl, rfl, rfl, rfl, rfl, rfl⟩ rfl rfl (by kernel_rfl) (by kernel_rfl) Tryf.func3 (by kernel_rfl)
    (of_decide_eq_true (by kernel_rfl)) (by unfold Func.isWrapper; first | (rw [if_pos (by decide +kernel)]; kernel_rfl) | (rw [if_neg (by decide +kernel)]; exact ⟨rfl, rfl⟩)) Tryf.stops.symm rfl Tryf.stopKnobs.symm (by kernel_rfl)
    (by kernel_rfl) (by kernel_rfl) (by kernel_rfl) (by kernel_rfl) (by kernel_rfl) (by kernel_rfl) (by kernel_rfl) (by kernel_rfl) (by kernel_rfl) rfl (by kernel_rfl) rfl rfl
    rfl rfl
    rfl (by kernel_rfl) (by kernel_rfl) (by kernel_rfl) (by decide) (by kernel_rfl) fnReadErrorTwiceKeepsCause_row_tie
    (OpenClaim.moreEntering_of (by kernel_rfl) (by kernel_rfl) (by kernel_rfl) (by kernel_rfl) (by kernel_rfl) (by kernel_rfl) (by kernel_rfl) (by kernel_rfl) (by kernel_rfl) (by kernel_rfl))
    ⟨_, WideRow.started_initial, Tryf.quiet _⟩
    (fun os started _ H enc _ => t3_lifted os started H enc)
end Go.Proofs.Qxb6616701aFmt
