/-
  DERIVED. GIVEN WITH THE SEED: THE CARDS: each row of Qxb6608712aFmtRows.lean that lists a variable, with what it lists TIED to the program's text (the seventh form; the later family's looks); each row that meets fmt, with fmt's text TOLD by the authors' own Lean function (tested against real Go, not proved from fmt's source: count such statements apart). THE CARD IS WHAT COUNTS. Prove the row's statement (the work); the ties are given (Qxb6608712aFmtTie.lean); close each card by the builder's one call (the guide's Derived/Test/ToyasCard.lean, 'card_holds'). Laid BY PROGRAM, IN A SANDBOX (cutbox-door.mjs). By AI agents, Wed Nov 11 2026. No macro, syntax, notation, axiom, sorry.
-/
import Derived.Test.Qxb6608712aFmtRows
import GoSem.ClaimSeven
namespace Go.Proofs.Qxb6608712aFmt
namespace Rows

/-- THE TOLD CARD OF 'zzlaws_internal_xmldoc_b1.FnNewScopeScopesDoNotShare'. -/
def fnNewScopeScopesDoNotShareCard : Claim7 := { stood := { row := fnNewScopeScopesDoNotShareRow, standIns := [], harness := (true, "4ef8c4694583b6a0b690ab8bae3566c398e6129514529c625ea47dba3936ccfb"), looks := false }, told := true, goes := false }
def FnNewScopeScopesDoNotShareToldSaid : Prop := Claim7.holds Tryf.pinned (.plain (OpenSpec.ofChange fnNewScopeScopesDoNotShareSpec)) fnNewScopeScopesDoNotShareCard
/-- ITS FALSE NEIGHBOUR. Refute it at one input. -/
def FnNewScopeScopesDoNotShareToldWrongFalsely : Prop := Claim7.holds Tryf.pinned (.plain (OpenSpec.ofChange fnNewScopeScopesDoNotShareWrong)) fnNewScopeScopesDoNotShareCard
end Rows
end Go.Proofs.Qxb6608712aFmt
