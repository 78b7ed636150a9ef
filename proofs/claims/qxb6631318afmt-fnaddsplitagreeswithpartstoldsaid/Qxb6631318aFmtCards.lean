/-
  DERIVED. GIVEN WITH THE SEED: THE CARDS: each row of Qxb6631318aFmtRows.lean that lists a variable, with what it lists TIED to the program's text (the seventh form; the later family's looks); each row that meets fmt, with fmt's text TOLD by the authors' own Lean function (tested against real Go, not proved from fmt's source: count such statements apart). THE CARD IS WHAT COUNTS. Prove the row's statement (the work); the ties are given (Qxb6631318aFmtTie.lean); close each card by the builder's one call (the guide's Derived/Test/ToyasCard.lean, 'card_holds'). Laid BY PROGRAM, IN A SANDBOX (cutbox-door.mjs). By AI agents, Wed Nov 11 2026. No macro, syntax, notation, axiom, sorry.
-/
import Derived.Test.Qxb6631318aFmtRows
import GoSem.ClaimSeven
namespace Go.Proofs.Qxb6631318aFmt
namespace Rows

/-- THE TOLD CARD OF 'zzlaws_internal_stats_b1.FnAddScriptMatchesModel'. -/
def fnAddScriptMatchesModelCard : Claim7 := { stood := { row := fnAddScriptMatchesModelRow, standIns := [], harness := (true, "a6dc724f73c1991917c1b30cb9eea66b7d3feea6de682bb61d783768faed5494"), looks := false }, told := true, goes := false }
def FnAddScriptMatchesModelToldSaid : Prop := Claim7.holds Tryf.pinned (.plain (OpenSpec.ofChange fnAddScriptMatchesModelSpec)) fnAddScriptMatchesModelCard
/-- ITS FALSE NEIGHBOUR. Refute it at one input. -/
def FnAddScriptMatchesModelToldWrongFalsely : Prop := Claim7.holds Tryf.pinned (.plain (OpenSpec.ofChange fnAddScriptMatchesModelWrong)) fnAddScriptMatchesModelCard

/-- THE TOLD CARD OF 'zzlaws_internal_stats_b1.FnAddSplitAgreesWithParts'. -/
def fnAddSplitAgreesWithPartsCard : Claim7 := { stood := { row := fnAddSplitAgreesWithPartsRow, standIns := [], harness := (true, "a6dc724f73c1991917c1b30cb9eea66b7d3feea6de682bb61d783768faed5494"), looks := false }, told := true, goes := false }
def FnAddSplitAgreesWithPartsToldSaid : Prop := Claim7.holds Tryf.pinned (.plain (OpenSpec.ofChange fnAddSplitAgreesWithPartsSpec)) fnAddSplitAgreesWithPartsCard
/-- ITS FALSE NEIGHBOUR. Refute it at one input. -/
def FnAddSplitAgreesWithPartsToldWrongFalsely : Prop := Claim7.holds Tryf.pinned (.plain (OpenSpec.ofChange fnAddSplitAgreesWithPartsWrong)) fnAddSplitAgreesWithPartsCard
end Rows
end Go.Proofs.Qxb6631318aFmt
