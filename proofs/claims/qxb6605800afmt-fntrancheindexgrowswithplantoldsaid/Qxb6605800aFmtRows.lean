/-
  No cell of these rows narrows 'for every input' (looked for: loops, veiled, ifaces, maps, wideKeys, modest, calm, conditions, laid).
  DERIVED. THE GIVEN ROWS OF THIS SEAT. 1 by the template 'for every input the law returns true; each argument reads behind the call as it read before'; 0 by the template 'total and deterministic' (their statements: Qxb6605800aFmtTotals.lean).
  GIVEN WITH THE SEED: the statements are not yours to turn. If you find one false, say at which input.
  Laid BY PROGRAM, IN A SANDBOX (cutbox-rows.mjs): the forced cells as the released guide's own fill.sh prints them over the translation 96507b6e8f0ebeaf… (all of the seat's roots in one cut). By AI agents, Wed Nov 11 2026. No macro, syntax, notation, axiom, sorry.
-/
import Derived.Test.Qxb6605800aFmtChecked
import GoSem.Claim
import GoSem.ClaimJoined
import GoSem.ClaimMapViews
import Derived.JoinedTies
import Derived.KernelRfl
namespace Go.Proofs.Qxb6605800aFmt
/- THE CELL 'sum', in the pinned program and in every row, IS THE sha256 OF THE DUMP (.gsa) THAT Qxb6605800aFmtProg.lean LOADS. Nothing in Lean hashes anything: it is a label: what it is worth is what the hold of that sum in a sandbox is worth. -/
noncomputable def Tryf.pinned : Pinned := { name := "qxb6605800afmt", sum := "96507b6e8f0ebeaf82bdf719cd266920f4ef998a7065198c0af71174d5e45194", checked := Tryf.checked }
namespace Rows
def none {H : Type} : Left H := { results := [], args := [] }

/-- 'zzlaws_internal_ledger_b1.FnTrancheIndexGrowsWithPlan': WHATEVER THE INPUT: true; the input reads as it did. -/
def fnTrancheIndexGrowsWithPlanSpec : ChangeSpec := { name := "fnTrancheIndexGrowsWithPlan", fn := fun _ => fun
  | [d1, d2, d3] => { results := [.lit (.bool true)], args := [d1, d2, d3] }
  | _ => none }
def fnTrancheIndexGrowsWithPlanRow : OpenClaim := { program := "qxb6605800afmt", sum := "96507b6e8f0ebeaf82bdf719cd266920f4ef998a7065198c0af71174d5e45194", func := "example.com/vestledger/vestledger/zzlaws_internal_ledger_b1.FnTrancheIndexGrowsWithPlan", spec := "fnTrancheIndexGrowsWithPlan", stops := ["fmt.errorf"], inPlace := ["fmt.errorf"], apart := false }
/-- NO THEOREM (fmt's text is open here; it may be false): for the released tool's asking of the row's closed facts alone. THE STATEMENT IS 'FnTrancheIndexGrowsWithPlanToldSaid' (Qxb6605800aFmtCards.lean). -/
def FnTrancheIndexGrowsWithPlanFormAsk : Prop := fnTrancheIndexGrowsWithPlanRow.holds Tryf.pinned (OpenSpec.ofChange fnTrancheIndexGrowsWithPlanSpec)

/-- ITS FALSE NEIGHBOUR: 'it returns false'. Refute it at one input. -/
def fnTrancheIndexGrowsWithPlanWrong : ChangeSpec := { name := "fnTrancheIndexGrowsWithPlan", fn := fun _ => fun
  | [d1, d2, d3] => { results := [.lit (.bool false)], args := [d1, d2, d3] }
  | _ => none }
def FnTrancheIndexGrowsWithPlanWrongFormAsk : Prop := fnTrancheIndexGrowsWithPlanRow.holds Tryf.pinned (OpenSpec.ofChange fnTrancheIndexGrowsWithPlanWrong)

end Rows
end Go.Proofs.Qxb6605800aFmt
