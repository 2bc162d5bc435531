/-
  The card of 'Rows.LawS2245BModelToldSaid': the row told and tied, after the guide's worked texts; the walk is YbulkatlwFmtLaws'.
-/
import Derived.Test.YbulkatlwFmtCards
import Derived.Test.YbulkatlwFmtTie
import Derived.Test.YbulkatlwFmtLaws
import Derived.Test.YbulkatlwFmtLaid
import Derived.OpenVars
import Derived.SevenTiedAt
import Derived.Stop.JoinedTold
import Derived.Deep.DeepWitnessRef
import Derived.Deep.DeepWitnessRowRef
import Derived.WalkKit
import Derived.ProofKit
import Derived.OpenShut
import Derived.ShutString
import Derived.ChangeOld
namespace Go.Proofs.YbulkatlwFmt.lawS2245BModel
open Go.ChangeShapes Go.WideShapes Go.ChangeAt Go.RowKit
open Go.ChangeMaps (open_string shut_string)
set_option linter.unusedVariables false

theorem own : ownKnob Ybaf.prog.godebug = none := by kernel_rfl
theorem laidOut : laidOutB Ybaf.prog = true := by kernel_rfl
theorem stopKnobs : Ybaf.pinned.checked.prog.stopKnobs = [] := by kernel_rfl
theorem quiet (os : Os) : Stop.quiet Ybaf.pinned.checked.prog os := by
  intro k hk
  rw [stopKnobs] at hk
  cases hk

/-- The door's own heap meets the condition. -/
theorem door_met (os : Os) (args : Array Value) : laidMetH Ybaf.prog Rows.lawS2245BModelRow.laid ((World.doorLaid Ybaf.prog 400 os).forCall (fun _ _ => 0) ⟨#[], args, []⟩).memory :=
  laidMetH_of_parts3 (fuel := 8) (laidMet_of_run' 8 (by kernel_rfl) (by kernel_rfl)) (by kernel_rfl) (by kernel_rfl)

theorem witness_row (os : Os) {H : Type} (enc : TypeId × Value → H) :
    (OpenSpec.ofChange Rows.lawS2245BModelSpec).preRow enc Ybaf.prog Ybaf.f3 Rows.lawS2245BModelRow.domain false Rows.lawS2245BModelRow.laid ((World.doorLaid Ybaf.prog 400 os).forCall (fun _ _ => 0) ⟨#[], #[.string ⟨#[]⟩, .int .u8 0, .int .u8 0], []⟩).memory #[.string ⟨#[]⟩, .int .u8 0, .int .u8 0] := by
  have hw : (DataW.whole enc Ybaf.prog ((World.doorLaid Ybaf.prog 400 os).forCall (fun _ _ => 0) ⟨#[], #[.string ⟨#[]⟩, .int .u8 0, .int .u8 0], []⟩).memory Ybaf.f3.params.toList Rows.lawS2245BModelSpec.vars false #[Value.string ⟨#[]⟩, Value.int .u8 0, Value.int .u8 0].toList 8).map (fun x => (x.1, x.2.1)) =
      some ([.lit (.string []), .lit (.int .u8 0), .lit (.int .u8 0)], [Rows.laid_example_com_wireform_wireform_wfhttp_mediaTypes]) := by kernel_rfl
  obtain ⟨⟨x1, x2, x3⟩, hx, hx1⟩ := Option.map_eq_some_iff.1 hw
  simp only [Prod.mk.injEq] at hx1
  obtain ⟨rfl, rfl⟩ := hx1
  exact OpenSpec.preRow_of_cond 8 hx (by kernel_rfl) (fun k hk => by cases hk) (by kernel_rfl) (door_met os _)

set_option maxRecDepth 100000 in
theorem lifted (os : Os) (started : os.Started) (H : Type) (enc : TypeId × Value → H) :
    ReturnsInTold none {} Ybaf.checked os 3 .any Input.okWide ((OpenSpec.ofChange Rows.lawS2245BModelSpec).preRow enc Ybaf.prog Ybaf.f3 Rows.lawS2245BModelRow.domain false Rows.lawS2245BModelRow.laid) (fun F => ((OpenSpec.ofChange Rows.lawS2245BModelSpec).at F).post enc Ybaf.prog Ybaf.f3 false true false false) (aloneAtReturn Ybaf.prog) nothingAlways := by
  refine returnsInTold_of_row (C := Ybaf.checked) (s := OpenSpec.ofChange Rows.lawS2245BModelSpec) (by kernel_rfl) own started (by kernel_rfl) Ybaf.func3
    (OpenSpec.witness_stopped_atRef (enc := enc) (C := Ybaf.checked) false (World.doorLaid Ybaf.prog 400 os) #[.string ⟨#[]⟩, .int .u8 0, .int .u8 0] rfl (by kernel_rfl) (by kernel_rfl) (by kernel_rfl) (witness_row os enc)) ?_
  intro F W base args ds gs before _ hF hval0 hW hcnd0 _ _ hL _
  have hval : ∀ (j : Nat) t v, Ybaf.f3.params[j]? = some t → args[j]? = some v → Value.okWide Ybaf.prog W .any base t v := hval0
  have hW' := hW
  obtain ⟨p, q, hA0, hV0, rfl, _, _⟩ := hW
  have hA : DataW.TrodAll enc Ybaf.prog W 0 (fun _ => true) true Ybaf.f3.params.toList args.toList ds p := hA0
  rw [Ybaf.params3] at hA hval
  obtain ⟨v0, vs0, d0, ds0, p0, q0, hargs, rfl, rfl, h0, r0⟩ := trodAll_cons hA
  obtain ⟨v1, vs1, d1, ds1, p1, q1, rfl, rfl, rfl, h1, r1⟩ := trodAll_cons r0
  obtain ⟨v2, vs2, d2, ds2, p2, q2, rfl, rfl, rfl, h2, r2⟩ := trodAll_cons r1
  obtain ⟨rfl, rfl, rfl⟩ := trodAll_nil r2
  obtain rfl : args = #[v0, v1, v2] := by cases args; simp_all
  obtain ⟨s, rfl, rfl, rfl, ws⟩ := open_string Ybaf.underlying9 (hval 0 9 v0 rfl rfl) h0
  obtain ⟨k, rfl, rfl, rfl, w1⟩ := open_int Ybaf.underlying5 (hval 1 5 v1 rfl rfl) h1
  obtain ⟨k2, rfl, rfl, rfl, w2⟩ := open_int Ybaf.underlying5 (hval 2 5 v2 rfl rfl) h2
  obtain ⟨b, off, cap, hM⟩ := of_laid hL
  have kb : 0 ≤ k ∧ k ≤ 255 := by
    simp [Lit.wf, IntKind.min, IntKind.max, IntKind.signed, IntKind.bits] at w1
    omega
  have hs : s.size ≤ 9223372036854775807 := by
    unfold maxLen at ws
    omega
  have hV : DataW.TrodVars enc Ybaf.prog W (fun _ => true) Rows.lawS2245BModelSpec.vars gs q := hV0
  obtain ⟨g, t, cs, fuel, d, pv, rfl, -, -, -, -, -⟩ := trodVars_one hV
  clear hA0 hval0 hV0
  refine (model_law s k k2 b off cap W hM hs kb.1 kb.2).mono ?_
  rintro e W' ⟨rfl, bel⟩
  exact ⟨_, rfl, _, _, _, [], _, _, hW', trodAll_mk1 (shut_bool Ybaf.underlying4 _), (trodAll_cons_mk (shut_string Ybaf.underlying9 ws) (trodAll_cons_mk (shut_int Ybaf.underlying5 w1) (trodAll_cons_mk (shut_int Ybaf.underlying5 w2) trodAll_mk0))), Below.trodVars laidOut bel (by kernel_rfl) hV, bel.frame _, fun h => by cases h⟩

/-- THE STATEMENT. -/
theorem proved : Rows.LawS2245BModelToldSaid :=
  Claim7.holds_of_told_tied_any_at .later 3 Ybaf.f3 _ [] [] _ _ _ _ _ (by kernel_rfl) rfl rfl rfl laidOut (by kernel_rfl) rfl ⟨rfl, rfl, rfl, rfl, rfl, rfl, rfl⟩ rfl rfl (by kernel_rfl) (by kernel_rfl) Ybaf.func3 (by kernel_rfl)
    (of_decide_eq_true (by kernel_rfl)) (of_decide_eq_true (by kernel_rfl)) (by kernel_rfl) rfl stopKnobs.symm (by kernel_rfl)
    (by kernel_rfl) (by kernel_rfl) (by kernel_rfl) (by kernel_rfl) (by kernel_rfl) (by kernel_rfl) (by kernel_rfl) (by kernel_rfl) (by kernel_rfl) rfl (by kernel_rfl) rfl rfl
    rfl rfl
    rfl (by kernel_rfl) (by kernel_rfl) (by kernel_rfl) (by decide) (by kernel_rfl) lawS2245BModel_row_tie
    (OpenClaim.moreEntering_of (by kernel_rfl) (by kernel_rfl) (by kernel_rfl) (by kernel_rfl) (by kernel_rfl) (by kernel_rfl) (by kernel_rfl) (by kernel_rfl) (by kernel_rfl) (by kernel_rfl))
    ⟨_, WideRow.started_initial, quiet _⟩
    (fun os started _ H enc _ => lifted os started H enc)
end Go.Proofs.YbulkatlwFmt.lawS2245BModel
