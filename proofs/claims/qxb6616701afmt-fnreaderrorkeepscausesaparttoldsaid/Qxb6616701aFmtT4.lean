import Derived.Test.Qxb6616701aFmtLaw4
import Derived.Test.Qxb6616701aFmtBase
namespace Go.Proofs.Qxb6616701aFmt
open Go.ChangeShapes Go.WideShapes Go.ChangeAt Go.RowKit Go.Kit
open Go.ChangeMaps (open_string shut_string)
open Go.Extern.Stop Go.Stop Go.Extern

theorem witness4_row (os : Os) {H : Type} (enc : TypeId × Value → H) :
    (OpenSpec.ofChange Rows.fnReadErrorKeepsCausesApartSpec).preRow enc Tryf.prog Tryf.f4 [] false Rows.fnReadErrorKeepsCausesApartRow.laid ((World.doorLaid Tryf.prog 66 os).forCall (fun _ _ => 0) ⟨#[], #[.int .u8 0, .string ⟨#[]⟩, .int .u8 0, .string ⟨#[]⟩], []⟩).memory #[.int .u8 0, .string ⟨#[]⟩, .int .u8 0, .string ⟨#[]⟩] := by
  have hw : (DataW.whole enc Tryf.prog ((World.doorLaid Tryf.prog 66 os).forCall (fun _ _ => 0) ⟨#[], #[.int .u8 0, .string ⟨#[]⟩, .int .u8 0, .string ⟨#[]⟩], []⟩).memory Tryf.f4.params.toList (OpenSpec.ofChange Rows.fnReadErrorKeepsCausesApartSpec).vars false (#[.int .u8 0, .string ⟨#[]⟩, .int .u8 0, .string ⟨#[]⟩] : Array Value).toList 8).map (fun x => x.1) =
      some [.lit (.int .u8 0), .lit (.string []), .lit (.int .u8 0), .lit (.string [])] := by kernel_rfl
  obtain ⟨⟨x1, x2, x3⟩, hx, hx1⟩ := Option.map_eq_some_iff.1 hw
  exact OpenSpec.preRow_of_cond 8 hx (by kernel_rfl) (fun k hk => by cases hk) (by kernel_rfl) (door_met os _)

set_option maxRecDepth 100000 in
theorem t4_lifted (os : Os) (started : os.Started) (H : Type) (enc : TypeId × Value → H) :
    ReturnsInTold none {} Tryf.checked os 4 .any Input.okWide ((OpenSpec.ofChange Rows.fnReadErrorKeepsCausesApartSpec).preRow enc Tryf.prog Tryf.f4 [] false Rows.fnReadErrorKeepsCausesApartRow.laid) (fun F => ((OpenSpec.ofChange Rows.fnReadErrorKeepsCausesApartSpec).at F).post enc Tryf.prog Tryf.f4 false true false false) (aloneAtReturn Tryf.prog) nothingAlways := by
  refine returnsInTold_of_row (C := Tryf.checked) (s := OpenSpec.ofChange Rows.fnReadErrorKeepsCausesApartSpec) (by kernel_rfl) Tryf.own started (by kernel_rfl) Tryf.func4
    (OpenSpec.witness_stopped_atRef (enc := enc) (C := Tryf.checked) false (World.doorLaid Tryf.prog 66 os) #[.int .u8 0, .string ⟨#[]⟩, .int .u8 0, .string ⟨#[]⟩] rfl (by kernel_rfl) (by kernel_rfl) (by kernel_rfl) (witness4_row os enc)) ?_
  intro F W base args ds gs before _ hF hval0 hW _ _ _ hL _
  have hval : ∀ (j : Nat) t v, Tryf.f4.params[j]? = some t → args[j]? = some v → Value.okWide Tryf.prog W .any base t v := hval0
  have hW' := hW
  obtain ⟨p, q, hA0, hV0, rfl, _, _⟩ := hW
  have hA : DataW.TrodAll enc Tryf.prog W 0 (fun _ => true) true Tryf.f4.params.toList args.toList ds p := hA0
  have hV : DataW.TrodVars enc Tryf.prog W (fun _ => true) Rows.fnReadErrorKeepsCausesApartSpec.vars gs q := hV0
  rw [Tryf.params4] at hA hval
  obtain ⟨v0, v1, v2, v3, d0, d1, d2, d3, p0, p1, p2, p3, rfl, rfl, rfl, h0, h1, h2, h3⟩ := trodAll_four hA
  obtain ⟨k, rfl, rfl, rfl, wk⟩ := open_int Tryf.underlying5 (hval 0 5 v0 rfl rfl) h0
  obtain ⟨s, rfl, rfl, rfl, ws⟩ := open_string Tryf.underlying9 (hval 1 9 v1 rfl rfl) h1
  obtain ⟨k2, rfl, rfl, rfl, wk2⟩ := open_int Tryf.underlying5 (hval 2 5 v2 rfl rfl) h2
  obtain ⟨s2, rfl, rfl, rfl, ws2⟩ := open_string Tryf.underlying9 (hval 3 9 v3 rfl rfl) h3
  obtain ⟨m, e0, e1, hS, hvars⟩ := sent_of_laid hL
  obtain ⟨rfl, rfl⟩ := hV.unique (hvars H enc W _ (Below.refl _ _))
  clear hA0 hV0 hval0
  refine (law4_any F.told k k2 s s2 m e0 e1 W hF hS ws ws2).mono fun e W' ⟨he, hb⟩ => ?_
  subst he
  exact ⟨_, rfl, _, _, _, [], [], [.cell 0 0], hW', trodAll_mk1 (shut_bool Tryf.underlying4 true), trodAll_mk4 (shut_int Tryf.underlying5 wk) (shut_string Tryf.underlying9 ws) (shut_int Tryf.underlying5 wk2) (shut_string Tryf.underlying9 ws2), hvars H enc W' _ hb, hb.frame _, fun h => by cases h⟩

theorem t4_holds : Rows.FnReadErrorKeepsCausesApartToldSaid :=
  Claim7.holds_of_told_tied_any_at .later 4 Tryf.f4 "fmt.errorf" [] [] _ _ _ _ _ (by kernel_rfl) rfl rfl rfl Tryf.laidOut (by kernel_rfl) rfl ⟨rfl, rfl, rfl, rfl, rfl, rfl, rfl⟩ rfl rfl (by kernel_rfl) (by kernel_rfl) Tryf.func4 (by kernel_rfl)
    (of_decide_eq_true (by kernel_rfl)) (by unfold Func.isWrapper; first | (rw [if_pos (by decide +kernel)]; kernel_rfl) | (rw [if_neg (by decide +kernel)]; exact ⟨rfl, rfl⟩)) Tryf.stops.symm rfl Tryf.stopKnobs.symm (by kernel_rfl)
    (by kernel_rfl) (by kernel_rfl) (by kernel_rfl) (by kernel_rfl) (by kernel_rfl) (by kernel_rfl) (by kernel_rfl) (by kernel_rfl) (by kernel_rfl) rfl (by kernel_rfl) rfl rfl
    rfl rfl
    rfl (by kernel_rfl) (by kernel_rfl) (by kernel_rfl) (by decide) (by kernel_rfl) fnReadErrorKeepsCausesApart_row_tie
    (OpenClaim.moreEntering_of (by kernel_rfl) (by kernel_rfl) (by kernel_rfl) (by kernel_rfl) (by kernel_rfl) (by kernel_rfl) (by kernel_rfl) (by kernel_rfl) (by kernel_rfl) (by kernel_rfl))
    ⟨_, WideRow.started_initial, Tryf.quiet _⟩
    (fun os started _ H enc _ => t4_lifted os started H enc)
end Go.Proofs.Qxb6616701aFmt
