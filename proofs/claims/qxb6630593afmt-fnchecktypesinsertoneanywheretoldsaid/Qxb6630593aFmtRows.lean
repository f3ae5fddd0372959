/-
  No cell of these rows narrows 'for every input' (looked for: loops, veiled, ifaces, maps, wideKeys, modest, calm, conditions, laid).
  DERIVED. THE GIVEN ROWS OF THIS SEAT. 2 by the template 'for every input the law returns true; each argument reads behind the call as it read before'; 0 by the template 'total and deterministic' (their statements: Qxb6630593aFmtTotals.lean).
  GIVEN WITH THE SEED: the statements are not yours to turn. If you find one false, say at which input.
  Laid BY PROGRAM, IN A SANDBOX (cutbox-rows.mjs): the forced cells as the released guide's own fill.sh prints them over the translation e18d72236bfc92d7… (all of the seat's roots in one cut). By AI agents, Wed Nov 11 2026. No macro, syntax, notation, axiom, sorry.
-/
import Derived.Test.Qxb6630593aFmtChecked
import GoSem.Claim
import GoSem.ClaimJoined
import GoSem.ClaimMapViews
import Derived.JoinedTies
import Derived.KernelRfl
namespace Go.Proofs.Qxb6630593aFmt
/- THE CELL 'sum', in the pinned program and in every row, IS THE sha256 OF THE DUMP (.gsa) THAT Qxb6630593aFmtProg.lean LOADS. Nothing in Lean hashes anything: it is a label: what it is worth is what the hold of that sum in a sandbox is worth. -/
noncomputable def Tryf.pinned : Pinned := { name := "qxb6630593afmt", sum := "e18d72236bfc92d7bb9031d43ba199b48f2d2691ccf4d37a5982cf61818109aa", checked := Tryf.checked }
namespace Rows
def none {H : Type} : Left H := { results := [], args := [] }

/-- 'zzlaws_internal_job_b1.FnCheckTypesRefusesWholeIffAPartRefuses': WHATEVER THE INPUT: true; the input reads as it did. -/
def fnCheckTypesRefusesWholeIffAPartRefusesSpec : ChangeSpec := { name := "fnCheckTypesRefusesWholeIffAPartRefuses", fn := fun _ => fun
  | [d1, d2] => { results := [.lit (.bool true)], args := [d1, d2] }
  | _ => none }
def fnCheckTypesRefusesWholeIffAPartRefusesRow : OpenClaim := { program := "qxb6630593afmt", sum := "e18d72236bfc92d7bb9031d43ba199b48f2d2691ccf4d37a5982cf61818109aa", func := "example.com/jobd/jobd/zzlaws_internal_job_b1.FnCheckTypesRefusesWholeIffAPartRefuses", spec := "fnCheckTypesRefusesWholeIffAPartRefuses", stops := ["fmt.Sprintf"], inPlace := ["fmt.Sprintf"], apart := false }
/-- NO THEOREM (fmt's text is open here; it may be false): for the released tool's asking of the row's closed facts alone. THE STATEMENT IS 'FnCheckTypesRefusesWholeIffAPartRefusesToldSaid' (Qxb6630593aFmtCards.lean). -/
def FnCheckTypesRefusesWholeIffAPartRefusesFormAsk : Prop := fnCheckTypesRefusesWholeIffAPartRefusesRow.holds Tryf.pinned (OpenSpec.ofChange fnCheckTypesRefusesWholeIffAPartRefusesSpec)

/-- ITS FALSE NEIGHBOUR: 'it returns false'. Refute it at one input. -/
def fnCheckTypesRefusesWholeIffAPartRefusesWrong : ChangeSpec := { name := "fnCheckTypesRefusesWholeIffAPartRefuses", fn := fun _ => fun
  | [d1, d2] => { results := [.lit (.bool false)], args := [d1, d2] }
  | _ => none }
def FnCheckTypesRefusesWholeIffAPartRefusesWrongFormAsk : Prop := fnCheckTypesRefusesWholeIffAPartRefusesRow.holds Tryf.pinned (OpenSpec.ofChange fnCheckTypesRefusesWholeIffAPartRefusesWrong)

/-- 'zzlaws_internal_job_b1.FnCheckTypesInsertOneAnywhere': WHATEVER THE INPUT: true; the input reads as it did. -/
def fnCheckTypesInsertOneAnywhereSpec : ChangeSpec := { name := "fnCheckTypesInsertOneAnywhere", fn := fun _ => fun
  | [d1, d2, d3] => { results := [.lit (.bool true)], args := [d1, d2, d3] }
  | _ => none }
def fnCheckTypesInsertOneAnywhereRow : OpenClaim := { program := "qxb6630593afmt", sum := "e18d72236bfc92d7bb9031d43ba199b48f2d2691ccf4d37a5982cf61818109aa", func := "example.com/jobd/jobd/zzlaws_internal_job_b1.FnCheckTypesInsertOneAnywhere", spec := "fnCheckTypesInsertOneAnywhere", stops := ["fmt.Sprintf"], inPlace := ["fmt.Sprintf"], apart := false }
/-- NO THEOREM (fmt's text is open here; it may be false): for the released tool's asking of the row's closed facts alone. THE STATEMENT IS 'FnCheckTypesInsertOneAnywhereToldSaid' (Qxb6630593aFmtCards.lean). -/
def FnCheckTypesInsertOneAnywhereFormAsk : Prop := fnCheckTypesInsertOneAnywhereRow.holds Tryf.pinned (OpenSpec.ofChange fnCheckTypesInsertOneAnywhereSpec)

/-- ITS FALSE NEIGHBOUR: 'it returns false'. Refute it at one input. -/
def fnCheckTypesInsertOneAnywhereWrong : ChangeSpec := { name := "fnCheckTypesInsertOneAnywhere", fn := fun _ => fun
  | [d1, d2, d3] => { results := [.lit (.bool false)], args := [d1, d2, d3] }
  | _ => none }
def FnCheckTypesInsertOneAnywhereWrongFormAsk : Prop := fnCheckTypesInsertOneAnywhereRow.holds Tryf.pinned (OpenSpec.ofChange fnCheckTypesInsertOneAnywhereWrong)

end Rows
end Go.Proofs.Qxb6630593aFmt
