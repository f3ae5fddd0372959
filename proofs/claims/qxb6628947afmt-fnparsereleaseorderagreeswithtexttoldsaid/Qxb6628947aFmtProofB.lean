/-
  FnParseReleaseOrderAgreesWithText: THE ROW, TOLD AND TIED (seat b6628947aF): after the kit's worked PortTold, PortSeven and MapyProofs (the witness starts in the heap that the door's own run leaves).
-/
import Derived.Test.Qxb6628947aFmtWalkD
import Derived.Test.Qxb6628947aFmtProofA
import Derived.Test.Qxb6628947aFmtTie
import Derived.Test.Qxb6628947aFmtCards
import Derived.ProofKit
import Derived.LaidMore
import Derived.Stop.JoinedAt
import Derived.Stop.JoinedTold
import Derived.Stop.LaidErr
import Derived.Deep.DeepWitnessRef
import Derived.SevenTiedAt
namespace Go.Proofs.Qxb6628947aFmt
open Go.ChangeShapes Go.WideShapes Go.ChangeAt Go.RowKit Go.Kit Go.Lib Go.Shelf
open Go.ChangeMaps (open_string shut_string)
open Go.Extern.Stop Go.Stop Go.Extern

set_option maxRecDepth 100000 in
set_option maxHeartbeats 1000000 in
theorem liftedB (os : Os) (started : os.Started) (H : Type) (enc : TypeId × Value → H) :
    ReturnsInTold none {} Tryf.checked os 4 .any Input.okWide ((OpenSpec.ofChange Rows.fnParseReleaseOrderAgreesWithTextSpec).preRow enc Tryf.prog Tryf.f4 [] false Rows.fnParseReleaseOrderAgreesWithTextRow.laid) (fun F => ((OpenSpec.ofChange Rows.fnParseReleaseOrderAgreesWithTextSpec).at F).post enc Tryf.prog Tryf.f4 false true false false) (aloneAtReturn Tryf.prog) nothingAlways := by
  refine returnsInTold_of_row (C := Tryf.checked) (s := OpenSpec.ofChange Rows.fnParseReleaseOrderAgreesWithTextSpec) (by kernel_rfl) ownK started (by kernel_rfl) Tryf.func4
    (OpenSpec.witness_stopped_atRef (enc := enc) (C := Tryf.checked) false (World.doorLaid Tryf.prog 62 os) #[.string ⟨#[]⟩, .string ⟨#[]⟩] rfl (by kernel_rfl) (by kernel_rfl) (by kernel_rfl)
      (OpenSpec.preRow_of_B rfl 8 (by kernel_rfl) (by kernel_rfl) (door_met os _))) ?_
  intro F W base args ds gs before _ hF hval0 hW _ _ _ hL _
  have hval : ∀ (j : Nat) t v, Tryf.f4.params[j]? = some t → args[j]? = some v → Value.okWide Tryf.prog W .any base t v := hval0
  have hW' := hW
  obtain ⟨p, q, hA0, hV0, rfl, _, _⟩ := hW
  have hA : DataW.TrodAll enc Tryf.prog W 0 (fun _ => true) true Tryf.f4.params.toList args.toList ds p := hA0
  rw [Tryf.params4] at hA hval
  obtain ⟨v0, v1, d0, d1, p0, p1, rfl, rfl, rfl, h0, h1⟩ := trodAll_two hA
  obtain ⟨rfl, rfl⟩ := trodVars_none hV0
  obtain ⟨s, rfl, rfl, rfl, ws⟩ := open_string Tryf.underlying9 (hval 0 9 v0 rfl rfl) h0
  obtain ⟨s2, rfl, rfl, rfl, ws2⟩ := open_string Tryf.underlying9 (hval 1 9 v1 rfl rfl) h1
  clear hA0 hV0 hval0
  obtain ⟨a0, a1, hv0, hv1⟩ := sentinels hL
  refine (lawB_any F.told s s2 W hF 39 39 _ _ hv0 hv1).mono ?_
  rintro e W' ⟨rfl, bel⟩
  have e1 : ((OpenSpec.ofChange Rows.fnParseReleaseOrderAgreesWithTextSpec).at F.told).fn H ([.lit (.string s.data.toList), .lit (.string s2.data.toList)] ++ []) = { results := [.lit (.bool true)], args := [.lit (.string s.data.toList), .lit (.string s2.data.toList)] } := rfl
  refine ⟨_, rfl, _, _, _, [], [], [], hW', ?_, ?_, ?_, bel.frame _, fun h => by cases h⟩
  · rw [e1]; exact trodAll_mk1 (shut_bool Tryf.underlying4 true)
  · rw [e1]; exact trodAll_mk2 (shut_string Tryf.underlying9 ws) (shut_string Tryf.underlying9 ws2)
  · rw [e1]; rfl

theorem fnParseReleaseOrderAgreesWithText_proved : Rows.FnParseReleaseOrderAgreesWithTextToldSaid :=
  Claim7.holds_of_told_tied_any_at .later 4 Tryf.f4 "fmt.errorf" [] [] _ _ _ _ _ (by kernel_rfl) rfl rfl rfl laidOutP (by kernel_rfl) rfl ⟨rfl, rfl, rfl, rfl, rfl, rfl, rfl⟩ rfl rfl (by kernel_rfl) (by kernel_rfl) Tryf.func4 (by kernel_rfl)
    (of_decide_eq_true (by kernel_rfl)) (by unfold Func.isWrapper; rw [if_neg (of_decide_eq_false (by kernel_rfl))]; exact ⟨rfl, rfl⟩) stopsP.symm rfl stopKnobsP.symm (by kernel_rfl)
    (by kernel_rfl) (by kernel_rfl) (by kernel_rfl) (by kernel_rfl) (by kernel_rfl) (by kernel_rfl) (by kernel_rfl) (by kernel_rfl) (by kernel_rfl) rfl (by kernel_rfl) rfl rfl
    rfl rfl
    rfl (by kernel_rfl) (by kernel_rfl) (by kernel_rfl) (by decide) (by kernel_rfl) fnParseReleaseOrderAgreesWithText_row_tie
    (OpenClaim.moreEntering_of (by kernel_rfl) (by kernel_rfl) (by kernel_rfl) (by kernel_rfl) (by kernel_rfl) (by kernel_rfl) (by kernel_rfl) (by kernel_rfl) (by kernel_rfl) (by kernel_rfl))
    ⟨_, WideRow.started_initial, quietP _⟩
    (fun os started _ H enc _ => liftedB os started H enc)

#print axioms fnParseReleaseOrderAgreesWithText_proved
end Go.Proofs.Qxb6628947aFmt
