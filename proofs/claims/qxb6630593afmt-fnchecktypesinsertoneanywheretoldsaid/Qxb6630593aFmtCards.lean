/-
  DERIVED. GIVEN WITH THE SEED: THE CARDS: each row of Qxb6630593aFmtRows.lean that lists a variable, with what it lists TIED to the program's text (the seventh form; the later family's looks); each row that meets fmt, with fmt's text TOLD by the authors' own Lean function (tested against real Go, not proved from fmt's source: count such statements apart). THE CARD IS WHAT COUNTS. Prove the row's statement (the work); the ties are given (Qxb6630593aFmtTie.lean); close each card by the builder's one call (the guide's Derived/Test/ToyasCard.lean, 'card_holds'). Laid BY PROGRAM, IN A SANDBOX (cutbox-door.mjs). By AI agents, Wed Nov 11 2026. No macro, syntax, notation, axiom, sorry.
-/
import Derived.Test.Qxb6630593aFmtRows
import GoSem.ClaimSeven
namespace Go.Proofs.Qxb6630593aFmt
namespace Rows

/-- THE TOLD CARD OF 'zzlaws_internal_job_b1.FnCheckTypesRefusesWholeIffAPartRefuses'. -/
def fnCheckTypesRefusesWholeIffAPartRefusesCard : Claim7 := { stood := { row := fnCheckTypesRefusesWholeIffAPartRefusesRow, standIns := [], harness := (true, "fc490f5f9cd15e24da454fab2935465494a6d17d869b78f3fff1e0ef1d18d671"), looks := false }, told := true, goes := false }
def FnCheckTypesRefusesWholeIffAPartRefusesToldSaid : Prop := Claim7.holds Tryf.pinned (.plain (OpenSpec.ofChange fnCheckTypesRefusesWholeIffAPartRefusesSpec)) fnCheckTypesRefusesWholeIffAPartRefusesCard
/-- ITS FALSE NEIGHBOUR. Refute it at one input. -/
def FnCheckTypesRefusesWholeIffAPartRefusesToldWrongFalsely : Prop := Claim7.holds Tryf.pinned (.plain (OpenSpec.ofChange fnCheckTypesRefusesWholeIffAPartRefusesWrong)) fnCheckTypesRefusesWholeIffAPartRefusesCard

/-- THE TOLD CARD OF 'zzlaws_internal_job_b1.FnCheckTypesInsertOneAnywhere'. -/
def fnCheckTypesInsertOneAnywhereCard : Claim7 := { stood := { row := fnCheckTypesInsertOneAnywhereRow, standIns := [], harness := (true, "fc490f5f9cd15e24da454fab2935465494a6d17d869b78f3fff1e0ef1d18d671"), looks := false }, told := true, goes := false }
def FnCheckTypesInsertOneAnywhereToldSaid : Prop := Claim7.holds Tryf.pinned (.plain (OpenSpec.ofChange fnCheckTypesInsertOneAnywhereSpec)) fnCheckTypesInsertOneAnywhereCard
/-- ITS FALSE NEIGHBOUR. Refute it at one input. -/
def FnCheckTypesInsertOneAnywhereToldWrongFalsely : Prop := Claim7.holds Tryf.pinned (.plain (OpenSpec.ofChange fnCheckTypesInsertOneAnywhereWrong)) fnCheckTypesInsertOneAnywhereCard
end Rows
end Go.Proofs.Qxb6630593aFmt
