/-
  No cell of these rows narrows 'for every input' (looked for: loops, veiled, ifaces, maps, wideKeys, modest, calm, conditions, laid).
  DERIVED. THE GIVEN ROWS OF THIS SEAT. 3 by the template 'for every input the law returns true; each argument reads behind the call as it read before'; 0 by the template 'total and deterministic' (their statements: Qxb6614444aTotals.lean).
  GIVEN WITH THE SEED: the statements are not yours to turn. If you find one false, say at which input.
  Laid BY PROGRAM, IN A SANDBOX (cutbox-rows.mjs): the forced cells as the released guide's own fill.sh prints them over the translation b7f4b0f920a605f7… (all of the seat's roots in one cut). By AI agents, Wed Nov 11 2026. No macro, syntax, notation, axiom, sorry.
-/
import Derived.Test.Qxb6614444aChecked
import GoSem.Claim
import GoSem.ClaimJoined
import GoSem.ClaimMapViews
import Derived.JoinedTies
import Derived.KernelRfl
namespace Go.Proofs.Qxb6614444a
/- THE CELL 'sum', in the pinned program and in every row, IS THE sha256 OF THE DUMP (.gsa) THAT Qxb6614444aProg.lean LOADS. Nothing in Lean hashes anything: it is a label: what it is worth is what the hold of that sum in a sandbox is worth. -/
noncomputable def Try.pinned : Pinned := { name := "qxb6614444a", sum := "b7f4b0f920a605f77efcd4f78d6694dfbdfee1e8c792e34b1d683f97006f0570", checked := Try.checked }
namespace Rows
def none {H : Type} : Left H := { results := [], args := [] }

/-- 'zzlaws_internal_matgen_b1.FnGridAffineAndMirror': WHATEVER THE INPUT: true; the input reads as it did. -/
def fnGridAffineAndMirrorSpec : ChangeSpec := { name := "fnGridAffineAndMirror", fn := fun _ => fun
  | [d1, d2] => { results := [.lit (.bool true)], args := [d1, d2] }
  | _ => none }
def fnGridAffineAndMirrorRow : OpenClaim := { program := "qxb6614444a", sum := "b7f4b0f920a605f77efcd4f78d6694dfbdfee1e8c792e34b1d683f97006f0570", func := "example.com/tiler/tiler/zzlaws_internal_matgen_b1.FnGridAffineAndMirror", spec := "fnGridAffineAndMirror", apart := false }
def FnGridAffineAndMirrorSaid : Prop := fnGridAffineAndMirrorRow.holds Try.pinned (OpenSpec.ofChange fnGridAffineAndMirrorSpec)

/-- ITS FALSE NEIGHBOUR: 'it returns false'. Refute it at one input. -/
def fnGridAffineAndMirrorWrong : ChangeSpec := { name := "fnGridAffineAndMirror", fn := fun _ => fun
  | [d1, d2] => { results := [.lit (.bool false)], args := [d1, d2] }
  | _ => none }
def FnGridAffineAndMirrorWrongFalsely : Prop := fnGridAffineAndMirrorRow.holds Try.pinned (OpenSpec.ofChange fnGridAffineAndMirrorWrong)

/-- 'zzlaws_internal_matgen_b1.FnFullAdditiveModulo': WHATEVER THE INPUT: true; the input reads as it did. -/
def fnFullAdditiveModuloSpec : ChangeSpec := { name := "fnFullAdditiveModulo", fn := fun _ => fun
  | [d1, d2] => { results := [.lit (.bool true)], args := [d1, d2] }
  | _ => none }
def fnFullAdditiveModuloRow : OpenClaim := { program := "qxb6614444a", sum := "b7f4b0f920a605f77efcd4f78d6694dfbdfee1e8c792e34b1d683f97006f0570", func := "example.com/tiler/tiler/zzlaws_internal_matgen_b1.FnFullAdditiveModulo", spec := "fnFullAdditiveModulo", apart := false }
def FnFullAdditiveModuloSaid : Prop := fnFullAdditiveModuloRow.holds Try.pinned (OpenSpec.ofChange fnFullAdditiveModuloSpec)

/-- ITS FALSE NEIGHBOUR: 'it returns false'. Refute it at one input. -/
def fnFullAdditiveModuloWrong : ChangeSpec := { name := "fnFullAdditiveModulo", fn := fun _ => fun
  | [d1, d2] => { results := [.lit (.bool false)], args := [d1, d2] }
  | _ => none }
def FnFullAdditiveModuloWrongFalsely : Prop := fnFullAdditiveModuloRow.holds Try.pinned (OpenSpec.ofChange fnFullAdditiveModuloWrong)

/-- 'zzlaws_internal_matgen_b1.FnFullSameIffCongruent': WHATEVER THE INPUT: true; the input reads as it did. -/
def fnFullSameIffCongruentSpec : ChangeSpec := { name := "fnFullSameIffCongruent", fn := fun _ => fun
  | [d1, d2] => { results := [.lit (.bool true)], args := [d1, d2] }
  | _ => none }
def fnFullSameIffCongruentRow : OpenClaim := { program := "qxb6614444a", sum := "b7f4b0f920a605f77efcd4f78d6694dfbdfee1e8c792e34b1d683f97006f0570", func := "example.com/tiler/tiler/zzlaws_internal_matgen_b1.FnFullSameIffCongruent", spec := "fnFullSameIffCongruent", apart := false }
def FnFullSameIffCongruentSaid : Prop := fnFullSameIffCongruentRow.holds Try.pinned (OpenSpec.ofChange fnFullSameIffCongruentSpec)

/-- ITS FALSE NEIGHBOUR: 'it returns false'. Refute it at one input. -/
def fnFullSameIffCongruentWrong : ChangeSpec := { name := "fnFullSameIffCongruent", fn := fun _ => fun
  | [d1, d2] => { results := [.lit (.bool false)], args := [d1, d2] }
  | _ => none }
def FnFullSameIffCongruentWrongFalsely : Prop := fnFullSameIffCongruentRow.holds Try.pinned (OpenSpec.ofChange fnFullSameIffCongruentWrong)

end Rows
end Go.Proofs.Qxb6614444a
