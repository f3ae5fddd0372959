/-
  FnParseReleaseByLastDigit: THE ROW, TOLD AND TIED (seat b6628947aF): after the kit's worked PortTold, PortSeven and MapyProofs (the witness starts in the heap that the door's own run leaves).
-/
import Derived.Test.Qxb6628947aFmtWalkB
import Derived.Test.Qxb6628947aFmtTie
import Derived.Test.Qxb6628947aFmtCards
import Derived.ProofKit
import Derived.LaidMore
import Derived.Stop.JoinedAt
import Derived.Stop.JoinedTold
import Derived.Stop.LaidErr
import Derived.Deep.DeepWitnessRef
import Derived.SevenTiedAt
namespace Go.Proofs.Qxb6628947aFmt
open Go.ChangeShapes Go.WideShapes Go.ChangeAt Go.RowKit Go.Kit Go.Lib Go.Shelf
open Go.ChangeMaps (open_string shut_string)
open Go.Extern.Stop Go.Stop Go.Extern

theorem ownK : ownKnob Tryf.prog.godebug = none := by kernel_rfl
/-- The sentinels' type's name, off the given datum. -/
def ptrName : String := match (Rows.laid_strconv_ErrRange : DataW Unit) with
  | .iface n _ => n
  | _ => "none"
theorem row39 (u : TypeId) (h : Tryf.prog.typeName? 3 u = some ptrName) : u = 39 :=
  typeName_ptr_named (nm := "errors.errorString") (by kernel_rfl) (by kernel_rfl) (by decide) u (h.trans (congrArg some (by kernel_rfl)))

theorem door_met (os : Os) (args : Array Value) : laidMetH Tryf.prog Rows.fnParseReleaseByLastDigitRow.laid ((World.doorLaid Tryf.prog 62 os).forCall (fun _ _ => 0) ⟨#[], args, []⟩).memory :=
  laidMetH_of_parts3 (fuel := 8) (laidMet_of_run' 8 (by kernel_rfl) (by kernel_rfl)) (by kernel_rfl) (by kernel_rfl)

theorem sentinels {W : World} (h : laidMetH Tryf.prog Rows.fnParseReleaseByLastDigitRow.laid W) : ∃ a0 a1, W.var? Tryf.prog "strconv.ErrSyntax" = some #[.iface 39 (.pointer (some a0))] ∧ W.var? Tryf.prog "strconv.ErrRange" = some #[.iface 39 (.pointer (some a1))] := by
  rw [MakeChecks.laidMetH_plain _ _ _ (by kernel_rfl)] at h
  obtain ⟨a1, s1, hv1, _, _, _⟩ := laid_sentinel (g := 1) h.tail.tail.tail g1 (by kernel_rfl) Tryf.underlying24 row39 Tryf.underlying39 Tryf.underlying41 rfl rfl Tryf.underlying9 (by kernel_rfl) (by kernel_rfl)
  obtain ⟨a0, s0, hv0, _, _, _⟩ := laid_sentinel (g := 0) h.tail.tail.tail.tail g0 (by kernel_rfl) Tryf.underlying24 row39 Tryf.underlying39 Tryf.underlying41 rfl rfl Tryf.underlying9 (by kernel_rfl) (by kernel_rfl)
  exact ⟨a0, a1, hv0, hv1⟩

set_option maxRecDepth 100000 in
set_option maxHeartbeats 1000000 in
theorem liftedA (os : Os) (started : os.Started) (H : Type) (enc : TypeId × Value → H) :
    ReturnsInTold none {} Tryf.checked os 3 .any Input.okWide ((OpenSpec.ofChange Rows.fnParseReleaseByLastDigitSpec).preRow enc Tryf.prog Tryf.f3 [] false Rows.fnParseReleaseByLastDigitRow.laid) (fun F => ((OpenSpec.ofChange Rows.fnParseReleaseByLastDigitSpec).at F).post enc Tryf.prog Tryf.f3 false true false false) (aloneAtReturn Tryf.prog) nothingAlways := by
  refine returnsInTold_of_row (C := Tryf.checked) (s := OpenSpec.ofChange Rows.fnParseReleaseByLastDigitSpec) (by kernel_rfl) ownK started (by kernel_rfl) Tryf.func3
    (OpenSpec.witness_stopped_atRef (enc := enc) (C := Tryf.checked) false (World.doorLaid Tryf.prog 62 os) #[.string ⟨#[]⟩] rfl (by kernel_rfl) (by kernel_rfl) (by kernel_rfl)
      (OpenSpec.preRow_of_B rfl 8 (by kernel_rfl) (by kernel_rfl) (door_met os _))) ?_
  intro F W base args ds gs before _ hF hval0 hW _ _ _ hL _
  have hval : ∀ (j : Nat) t v, Tryf.f3.params[j]? = some t → args[j]? = some v → Value.okWide Tryf.prog W .any base t v := hval0
  have hW' := hW
  obtain ⟨p, q, hA0, hV0, rfl, _, _⟩ := hW
  have hA : DataW.TrodAll enc Tryf.prog W 0 (fun _ => true) true Tryf.f3.params.toList args.toList ds p := hA0
  rw [Tryf.params3] at hA hval
  obtain ⟨v0, d0, rfl, rfl, h0⟩ := trodAll_one hA
  obtain ⟨rfl, rfl⟩ := trodVars_none hV0
  obtain ⟨s, rfl, rfl, rfl, ws⟩ := open_string Tryf.underlying9 (hval 0 9 v0 rfl rfl) h0
  clear hA0 hV0 hval0
  obtain ⟨a0, a1, hv0, hv1⟩ := sentinels hL
  refine (lawA_any F.told s W hF 39 39 _ _ hv0 hv1).mono ?_
  rintro e W' ⟨rfl, bel⟩
  have e1 : ((OpenSpec.ofChange Rows.fnParseReleaseByLastDigitSpec).at F.told).fn H ([.lit (.string s.data.toList)] ++ []) = { results := [.lit (.bool true)], args := [.lit (.string s.data.toList)] } := rfl
  refine ⟨_, rfl, _, _, _, [], [], [], hW', ?_, ?_, ?_, bel.frame _, fun h => by cases h⟩
  · rw [e1]; exact trodAll_mk1 (shut_bool Tryf.underlying4 true)
  · rw [e1]; exact trodAll_mk1 (shut_string Tryf.underlying9 ws)
  · rw [e1]; rfl

theorem laidOutP : laidOutB Tryf.pinned.checked.prog = true := by kernel_rfl
theorem stopsP : Tryf.pinned.checked.prog.stops = ["fmt.errorf"] := by kernel_rfl
theorem stopKnobsP : Tryf.pinned.checked.prog.stopKnobs = [] := by kernel_rfl
theorem quietP (os : Os) : Stop.quiet Tryf.pinned.checked.prog os := by
  intro k hk
  rw [stopKnobsP] at hk
  cases hk

theorem fnParseReleaseByLastDigit_proved : Rows.FnParseReleaseByLastDigitToldSaid :=
  Claim7.holds_of_told_tied_any_at .later 3 Tryf.f3 "fmt.errorf" [] [] _ _ _ _ _ (by kernel_rfl) rfl rfl rfl laidOutP (by kernel_rfl) rfl ⟨rfl, rfl, rfl, rfl, rfl, rfl, rfl⟩ rfl rfl (by kernel_rfl) (by kernel_rfl) Tryf.func3 (by kernel_rfl)
    (of_decide_eq_true (by kernel_rfl)) (by unfold Func.isWrapper; rw [if_neg (of_decide_eq_false (by kernel_rfl))]; exact ⟨rfl, rfl⟩) stopsP.symm rfl stopKnobsP.symm (by kernel_rfl)
    (by kernel_rfl) (by kernel_rfl) (by kernel_rfl) (by kernel_rfl) (by kernel_rfl) (by kernel_rfl) (by kernel_rfl) (by kernel_rfl) (by kernel_rfl) rfl (by kernel_rfl) rfl rfl
    rfl rfl
    rfl (by kernel_rfl) (by kernel_rfl) (by kernel_rfl) (by decide) (by kernel_rfl) fnParseReleaseByLastDigit_row_tie
    (OpenClaim.moreEntering_of (by kernel_rfl) (by kernel_rfl) (by kernel_rfl) (by kernel_rfl) (by kernel_rfl) (by kernel_rfl) (by kernel_rfl) (by kernel_rfl) (by kernel_rfl) (by kernel_rfl))
    ⟨_, WideRow.started_initial, quietP _⟩
    (fun os started _ H enc _ => liftedA os started H enc)

#print axioms fnParseReleaseByLastDigit_proved
end Go.Proofs.Qxb6628947aFmt
