/-
  No cell of these rows narrows 'for every input' (looked for: loops, veiled, ifaces, maps, wideKeys, modest, calm, conditions, laid).
  DERIVED. THE GIVEN ROWS OF THIS SEAT. 2 by the template 'for every input the law returns true; each argument reads behind the call as it read before'; 0 by the template 'total and deterministic' (their statements: Qxb6630546aTotals.lean).
  GIVEN WITH THE SEED: the statements are not yours to turn. If you find one false, say at which input.
  Laid BY PROGRAM, IN A SANDBOX (cutbox-rows.mjs): the forced cells as the released guide's own fill.sh prints them over the translation 1459359fc59d3f2e… (all of the seat's roots in one cut). By AI agents, Wed Nov 11 2026. No macro, syntax, notation, axiom, sorry.
-/
import Derived.Test.Qxb6630546aChecked
import GoSem.Claim
import GoSem.ClaimJoined
import GoSem.ClaimMapViews
import Derived.JoinedTies
import Derived.KernelRfl
namespace Go.Proofs.Qxb6630546a
/- THE CELL 'sum', in the pinned program and in every row, IS THE sha256 OF THE DUMP (.gsa) THAT Qxb6630546aProg.lean LOADS. Nothing in Lean hashes anything: it is a label: what it is worth is what the hold of that sum in a sandbox is worth. -/
noncomputable def Try.pinned : Pinned := { name := "qxb6630546a", sum := "1459359fc59d3f2eb16660c998624cc1dad0bfe97b12a6c899c4cd2da29399c6", checked := Try.checked }
namespace Rows
def none {H : Type} : Left H := { results := [], args := [] }

/-- 'zzlaws_internal_bench_b1.FnMeanIsTruncatedMeanOfConfirmed': WHATEVER THE INPUT: true; the input reads as it did. -/
def fnMeanIsTruncatedMeanOfConfirmedSpec : ChangeSpec := { name := "fnMeanIsTruncatedMeanOfConfirmed", fn := fun _ => fun
  | [d1, d2, d3, d4] => { results := [.lit (.bool true)], args := [d1, d2, d3, d4] }
  | _ => none }
def fnMeanIsTruncatedMeanOfConfirmedRow : OpenClaim := { program := "qxb6630546a", sum := "1459359fc59d3f2eb16660c998624cc1dad0bfe97b12a6c899c4cd2da29399c6", func := "example.com/roundtrip/roundtrip/zzlaws_internal_bench_b1.FnMeanIsTruncatedMeanOfConfirmed", spec := "fnMeanIsTruncatedMeanOfConfirmed", apart := false }
def FnMeanIsTruncatedMeanOfConfirmedSaid : Prop := fnMeanIsTruncatedMeanOfConfirmedRow.holds Try.pinned (OpenSpec.ofChange fnMeanIsTruncatedMeanOfConfirmedSpec)

/-- ITS FALSE NEIGHBOUR: 'it returns false'. Refute it at one input. -/
def fnMeanIsTruncatedMeanOfConfirmedWrong : ChangeSpec := { name := "fnMeanIsTruncatedMeanOfConfirmed", fn := fun _ => fun
  | [d1, d2, d3, d4] => { results := [.lit (.bool false)], args := [d1, d2, d3, d4] }
  | _ => none }
def FnMeanIsTruncatedMeanOfConfirmedWrongFalsely : Prop := fnMeanIsTruncatedMeanOfConfirmedRow.holds Try.pinned (OpenSpec.ofChange fnMeanIsTruncatedMeanOfConfirmedWrong)

/-- 'zzlaws_internal_bench_b1.FnMeanOfJoinedLiesBetweenParts': WHATEVER THE INPUT: true; the input reads as it did. -/
def fnMeanOfJoinedLiesBetweenPartsSpec : ChangeSpec := { name := "fnMeanOfJoinedLiesBetweenParts", fn := fun _ => fun
  | [d1, d2, d3] => { results := [.lit (.bool true)], args := [d1, d2, d3] }
  | _ => none }
def fnMeanOfJoinedLiesBetweenPartsRow : OpenClaim := { program := "qxb6630546a", sum := "1459359fc59d3f2eb16660c998624cc1dad0bfe97b12a6c899c4cd2da29399c6", func := "example.com/roundtrip/roundtrip/zzlaws_internal_bench_b1.FnMeanOfJoinedLiesBetweenParts", spec := "fnMeanOfJoinedLiesBetweenParts", apart := false }
def FnMeanOfJoinedLiesBetweenPartsSaid : Prop := fnMeanOfJoinedLiesBetweenPartsRow.holds Try.pinned (OpenSpec.ofChange fnMeanOfJoinedLiesBetweenPartsSpec)

/-- ITS FALSE NEIGHBOUR: 'it returns false'. Refute it at one input. -/
def fnMeanOfJoinedLiesBetweenPartsWrong : ChangeSpec := { name := "fnMeanOfJoinedLiesBetweenParts", fn := fun _ => fun
  | [d1, d2, d3] => { results := [.lit (.bool false)], args := [d1, d2, d3] }
  | _ => none }
def FnMeanOfJoinedLiesBetweenPartsWrongFalsely : Prop := fnMeanOfJoinedLiesBetweenPartsRow.holds Try.pinned (OpenSpec.ofChange fnMeanOfJoinedLiesBetweenPartsWrong)

end Rows
end Go.Proofs.Qxb6630546a
