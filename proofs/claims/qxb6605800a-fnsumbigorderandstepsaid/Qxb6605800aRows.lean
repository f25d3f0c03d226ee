/-
  No cell of these rows narrows 'for every input' (looked for: loops, veiled, ifaces, maps, wideKeys, modest, calm, conditions, laid).
  DERIVED. THE GIVEN ROWS OF THIS SEAT. 1 by the template 'for every input the law returns true; each argument reads behind the call as it read before'; 0 by the template 'total and deterministic' (their statements: Qxb6605800aTotals.lean).
  GIVEN WITH THE SEED: the statements are not yours to turn. If you find one false, say at which input.
  Laid BY PROGRAM, IN A SANDBOX (cutbox-rows.mjs): the forced cells as the released guide's own fill.sh prints them over the translation 23b911232778f5ba… (all of the seat's roots in one cut). By AI agents, Wed Nov 11 2026. No macro, syntax, notation, axiom, sorry.
-/
import Derived.Test.Qxb6605800aChecked
import GoSem.Claim
import GoSem.ClaimJoined
import GoSem.ClaimMapViews
import Derived.JoinedTies
import Derived.KernelRfl
namespace Go.Proofs.Qxb6605800a
/- THE CELL 'sum', in the pinned program and in every row, IS THE sha256 OF THE DUMP (.gsa) THAT Qxb6605800aProg.lean LOADS. Nothing in Lean hashes anything: it is a label: what it is worth is what the hold of that sum in a sandbox is worth. -/
noncomputable def Try.pinned : Pinned := { name := "qxb6605800a", sum := "23b911232778f5babe78878ff77717e6fe1938f54ab5f6cc7f01ee701177428c", checked := Try.checked }
namespace Rows
def none {H : Type} : Left H := { results := [], args := [] }

/-- 'zzlaws_internal_ledger_b1.FnSumBigOrderAndStep': WHATEVER THE INPUT: true; the input reads as it did. -/
def fnSumBigOrderAndStepSpec : ChangeSpec := { name := "fnSumBigOrderAndStep", fn := fun _ => fun
  | [d1, d2, d3, d4] => { results := [.lit (.bool true)], args := [d1, d2, d3, d4] }
  | _ => none }
def fnSumBigOrderAndStepRow : OpenClaim := { program := "qxb6605800a", sum := "23b911232778f5babe78878ff77717e6fe1938f54ab5f6cc7f01ee701177428c", func := "example.com/vestledger/vestledger/zzlaws_internal_ledger_b1.FnSumBigOrderAndStep", spec := "fnSumBigOrderAndStep", inPlace := ["math/big.lshVU", "math/big.addVV", "math/bits.Add64", "math/big.subVV", "math/bits.Sub64"], recurses := true, apart := false }
def FnSumBigOrderAndStepSaid : Prop := fnSumBigOrderAndStepRow.holds Try.pinned (OpenSpec.ofChange fnSumBigOrderAndStepSpec)

/-- ITS FALSE NEIGHBOUR: 'it returns false'. Refute it at one input. -/
def fnSumBigOrderAndStepWrong : ChangeSpec := { name := "fnSumBigOrderAndStep", fn := fun _ => fun
  | [d1, d2, d3, d4] => { results := [.lit (.bool false)], args := [d1, d2, d3, d4] }
  | _ => none }
def FnSumBigOrderAndStepWrongFalsely : Prop := fnSumBigOrderAndStepRow.holds Try.pinned (OpenSpec.ofChange fnSumBigOrderAndStepWrong)

end Rows
end Go.Proofs.Qxb6605800a
