/-
  No cell of these rows narrows 'for every input' (looked for: loops, veiled, ifaces, maps, wideKeys, modest, calm, conditions, laid).
  DERIVED. THE GIVEN ROWS OF THIS SEAT. 2 by the template 'for every input the law returns true; each argument reads behind the call as it read before'; 0 by the template 'total and deterministic' (their statements: Qxb6630633aTotals.lean).
  GIVEN WITH THE SEED: the statements are not yours to turn. If you find one false, say at which input.
  Laid BY PROGRAM, IN A SANDBOX (cutbox-rows.mjs): the forced cells as the released guide's own fill.sh prints them over the translation c6ffaaf3153f64a0… (all of the seat's roots in one cut). By AI agents, Wed Nov 11 2026. No macro, syntax, notation, axiom, sorry.
-/
import Derived.Test.Qxb6630633aChecked
import GoSem.Claim
import GoSem.ClaimJoined
import GoSem.ClaimMapViews
import Derived.JoinedTies
import Derived.KernelRfl
namespace Go.Proofs.Qxb6630633a
/- THE CELL 'sum', in the pinned program and in every row, IS THE sha256 OF THE DUMP (.gsa) THAT Qxb6630633aProg.lean LOADS. Nothing in Lean hashes anything: it is a label: what it is worth is what the hold of that sum in a sandbox is worth. -/
noncomputable def Try.pinned : Pinned := { name := "qxb6630633a", sum := "c6ffaaf3153f64a0d66675490fd71ba0e69c7ffebd64a12e55fc510a5498eeae", checked := Try.checked }
namespace Rows
def none {H : Type} : Left H := { results := [], args := [] }

/-- 'zzlaws_internal_backoff_b1.FnWaitIsCappedDoubling': WHATEVER THE INPUT: true; the input reads as it did. -/
def fnWaitIsCappedDoublingSpec : ChangeSpec := { name := "fnWaitIsCappedDoubling", fn := fun _ => fun
  | [d1, d2, d3] => { results := [.lit (.bool true)], args := [d1, d2, d3] }
  | _ => none }
def fnWaitIsCappedDoublingRow : OpenClaim := { program := "qxb6630633a", sum := "c6ffaaf3153f64a0d66675490fd71ba0e69c7ffebd64a12e55fc510a5498eeae", func := "example.com/ledgerpost/ledgerpost/zzlaws_internal_backoff_b1.FnWaitIsCappedDoubling", spec := "fnWaitIsCappedDoubling", apart := false }
def FnWaitIsCappedDoublingSaid : Prop := fnWaitIsCappedDoublingRow.holds Try.pinned (OpenSpec.ofChange fnWaitIsCappedDoublingSpec)

/-- ITS FALSE NEIGHBOUR: 'it returns false'. Refute it at one input. -/
def fnWaitIsCappedDoublingWrong : ChangeSpec := { name := "fnWaitIsCappedDoubling", fn := fun _ => fun
  | [d1, d2, d3] => { results := [.lit (.bool false)], args := [d1, d2, d3] }
  | _ => none }
def FnWaitIsCappedDoublingWrongFalsely : Prop := fnWaitIsCappedDoublingRow.holds Try.pinned (OpenSpec.ofChange fnWaitIsCappedDoublingWrong)

/-- 'zzlaws_internal_backoff_b1.FnWaitNextDoublesUpToCeiling': WHATEVER THE INPUT: true; the input reads as it did. -/
def fnWaitNextDoublesUpToCeilingSpec : ChangeSpec := { name := "fnWaitNextDoublesUpToCeiling", fn := fun _ => fun
  | [d1, d2, d3] => { results := [.lit (.bool true)], args := [d1, d2, d3] }
  | _ => none }
def fnWaitNextDoublesUpToCeilingRow : OpenClaim := { program := "qxb6630633a", sum := "c6ffaaf3153f64a0d66675490fd71ba0e69c7ffebd64a12e55fc510a5498eeae", func := "example.com/ledgerpost/ledgerpost/zzlaws_internal_backoff_b1.FnWaitNextDoublesUpToCeiling", spec := "fnWaitNextDoublesUpToCeiling", apart := false }
def FnWaitNextDoublesUpToCeilingSaid : Prop := fnWaitNextDoublesUpToCeilingRow.holds Try.pinned (OpenSpec.ofChange fnWaitNextDoublesUpToCeilingSpec)

/-- ITS FALSE NEIGHBOUR: 'it returns false'. Refute it at one input. -/
def fnWaitNextDoublesUpToCeilingWrong : ChangeSpec := { name := "fnWaitNextDoublesUpToCeiling", fn := fun _ => fun
  | [d1, d2, d3] => { results := [.lit (.bool false)], args := [d1, d2, d3] }
  | _ => none }
def FnWaitNextDoublesUpToCeilingWrongFalsely : Prop := fnWaitNextDoublesUpToCeilingRow.holds Try.pinned (OpenSpec.ofChange fnWaitNextDoublesUpToCeilingWrong)

end Rows
end Go.Proofs.Qxb6630633a
