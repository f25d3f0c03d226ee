/-
  DERIVED. GIVEN WITH THE SEED: THE CARDS: each row of Qxb6605800aFmtRows.lean that lists a variable, with what it lists TIED to the program's text (the seventh form; the later family's looks); each row that meets fmt, with fmt's text TOLD by the authors' own Lean function (tested against real Go, not proved from fmt's source: count such statements apart). THE CARD IS WHAT COUNTS. Prove the row's statement (the work); the ties are given (Qxb6605800aFmtTie.lean); close each card by the builder's one call (the guide's Derived/Test/ToyasCard.lean, 'card_holds'). Laid BY PROGRAM, IN A SANDBOX (cutbox-door.mjs). By AI agents, Wed Nov 11 2026. No macro, syntax, notation, axiom, sorry.
-/
import Derived.Test.Qxb6605800aFmtRows
import GoSem.ClaimSeven
namespace Go.Proofs.Qxb6605800aFmt
namespace Rows

/-- THE TOLD CARD OF 'zzlaws_internal_ledger_b1.FnTrancheIndexGrowsWithPlan'. -/
def fnTrancheIndexGrowsWithPlanCard : Claim7 := { stood := { row := fnTrancheIndexGrowsWithPlanRow, standIns := [], harness := (true, "74ef97a0826e3c4061e536d1e978dd339710320b9e5a9220d13f7f480b42de52"), looks := false }, told := true, goes := false }
def FnTrancheIndexGrowsWithPlanToldSaid : Prop := Claim7.holds Tryf.pinned (.plain (OpenSpec.ofChange fnTrancheIndexGrowsWithPlanSpec)) fnTrancheIndexGrowsWithPlanCard
/-- ITS FALSE NEIGHBOUR. Refute it at one input. -/
def FnTrancheIndexGrowsWithPlanToldWrongFalsely : Prop := Claim7.holds Tryf.pinned (.plain (OpenSpec.ofChange fnTrancheIndexGrowsWithPlanWrong)) fnTrancheIndexGrowsWithPlanCard
end Rows
end Go.Proofs.Qxb6605800aFmt
