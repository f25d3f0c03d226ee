/-
  No cell of these rows narrows 'for every input' (looked for: loops, veiled, ifaces, maps, wideKeys, modest, calm, conditions, laid).
  DERIVED. THE GIVEN ROWS OF THIS SEAT. 3 by the template 'for every input the law returns true; each argument reads behind the call as it read before'; 0 by the template 'total and deterministic' (their statements: Qxb6614398aTotals.lean).
  GIVEN WITH THE SEED: the statements are not yours to turn. If you find one false, say at which input.
  Laid BY PROGRAM, IN A SANDBOX (cutbox-rows.mjs): the forced cells as the released guide's own fill.sh prints them over the translation 9151686cef7fcac2… (all of the seat's roots in one cut). By AI agents, Wed Nov 11 2026. No macro, syntax, notation, axiom, sorry.
-/
import Derived.Test.Qxb6614398aChecked
import GoSem.Claim
import GoSem.ClaimJoined
import GoSem.ClaimMapViews
import Derived.JoinedTies
import Derived.KernelRfl
namespace Go.Proofs.Qxb6614398a
/- THE CELL 'sum', in the pinned program and in every row, IS THE sha256 OF THE DUMP (.gsa) THAT Qxb6614398aProg.lean LOADS. Nothing in Lean hashes anything: it is a label: what it is worth is what the hold of that sum in a sandbox is worth. -/
noncomputable def Try.pinned : Pinned := { name := "qxb6614398a", sum := "9151686cef7fcac2aa2126a909e1a6e4095650efcebfe0db33d1e8bb7ad075e4", checked := Try.checked }
namespace Rows
def none {H : Type} : Left H := { results := [], args := [] }

/-- 'zzlaws_root_b1.FnMayBeSameNameReadsFirstBytesOnly': WHATEVER THE INPUT: true; the input reads as it did. -/
def fnMayBeSameNameReadsFirstBytesOnlySpec : ChangeSpec := { name := "fnMayBeSameNameReadsFirstBytesOnly", fn := fun _ => fun
  | [d1, d2, d3, d4] => { results := [.lit (.bool true)], args := [d1, d2, d3, d4] }
  | _ => none }
def fnMayBeSameNameReadsFirstBytesOnlyRow : OpenClaim := { program := "qxb6614398a", sum := "9151686cef7fcac2aa2126a909e1a6e4095650efcebfe0db33d1e8bb7ad075e4", func := "example.com/keys-under-sections/keys-under-sections/zzlaws_root_b1.FnMayBeSameNameReadsFirstBytesOnly", spec := "fnMayBeSameNameReadsFirstBytesOnly", apart := false }
def FnMayBeSameNameReadsFirstBytesOnlySaid : Prop := fnMayBeSameNameReadsFirstBytesOnlyRow.holds Try.pinned (OpenSpec.ofChange fnMayBeSameNameReadsFirstBytesOnlySpec)

/-- ITS FALSE NEIGHBOUR: 'it returns false'. Refute it at one input. -/
def fnMayBeSameNameReadsFirstBytesOnlyWrong : ChangeSpec := { name := "fnMayBeSameNameReadsFirstBytesOnly", fn := fun _ => fun
  | [d1, d2, d3, d4] => { results := [.lit (.bool false)], args := [d1, d2, d3, d4] }
  | _ => none }
def FnMayBeSameNameReadsFirstBytesOnlyWrongFalsely : Prop := fnMayBeSameNameReadsFirstBytesOnlyRow.holds Try.pinned (OpenSpec.ofChange fnMayBeSameNameReadsFirstBytesOnlyWrong)

/-- 'zzlaws_root_b1.FnMayBeSameNameIgnoresCaseAndDashes': WHATEVER THE INPUT: true; the input reads as it did. -/
def fnMayBeSameNameIgnoresCaseAndDashesSpec : ChangeSpec := { name := "fnMayBeSameNameIgnoresCaseAndDashes", fn := fun _ => fun
  | [d1, d2] => { results := [.lit (.bool true)], args := [d1, d2] }
  | _ => none }
def fnMayBeSameNameIgnoresCaseAndDashesRow : OpenClaim := { program := "qxb6614398a", sum := "9151686cef7fcac2aa2126a909e1a6e4095650efcebfe0db33d1e8bb7ad075e4", func := "example.com/keys-under-sections/keys-under-sections/zzlaws_root_b1.FnMayBeSameNameIgnoresCaseAndDashes", spec := "fnMayBeSameNameIgnoresCaseAndDashes", apart := false }
def FnMayBeSameNameIgnoresCaseAndDashesSaid : Prop := fnMayBeSameNameIgnoresCaseAndDashesRow.holds Try.pinned (OpenSpec.ofChange fnMayBeSameNameIgnoresCaseAndDashesSpec)

/-- ITS FALSE NEIGHBOUR: 'it returns false'. Refute it at one input. -/
def fnMayBeSameNameIgnoresCaseAndDashesWrong : ChangeSpec := { name := "fnMayBeSameNameIgnoresCaseAndDashes", fn := fun _ => fun
  | [d1, d2] => { results := [.lit (.bool false)], args := [d1, d2] }
  | _ => none }
def FnMayBeSameNameIgnoresCaseAndDashesWrongFalsely : Prop := fnMayBeSameNameIgnoresCaseAndDashesRow.holds Try.pinned (OpenSpec.ofChange fnMayBeSameNameIgnoresCaseAndDashesWrong)

/-- 'zzlaws_root_b1.FnWhollyQuotedHangsOnTheLastPartsEnd': WHATEVER THE INPUT: true; the input reads as it did. -/
def fnWhollyQuotedHangsOnTheLastPartsEndSpec : ChangeSpec := { name := "fnWhollyQuotedHangsOnTheLastPartsEnd", fn := fun _ => fun
  | [d1, d2, d3, d4, d5] => { results := [.lit (.bool true)], args := [d1, d2, d3, d4, d5] }
  | _ => none }
def fnWhollyQuotedHangsOnTheLastPartsEndRow : OpenClaim := { program := "qxb6614398a", sum := "9151686cef7fcac2aa2126a909e1a6e4095650efcebfe0db33d1e8bb7ad075e4", func := "example.com/keys-under-sections/keys-under-sections/zzlaws_root_b1.FnWhollyQuotedHangsOnTheLastPartsEnd", spec := "fnWhollyQuotedHangsOnTheLastPartsEnd", apart := false }
def FnWhollyQuotedHangsOnTheLastPartsEndSaid : Prop := fnWhollyQuotedHangsOnTheLastPartsEndRow.holds Try.pinned (OpenSpec.ofChange fnWhollyQuotedHangsOnTheLastPartsEndSpec)

/-- ITS FALSE NEIGHBOUR: 'it returns false'. Refute it at one input. -/
def fnWhollyQuotedHangsOnTheLastPartsEndWrong : ChangeSpec := { name := "fnWhollyQuotedHangsOnTheLastPartsEnd", fn := fun _ => fun
  | [d1, d2, d3, d4, d5] => { results := [.lit (.bool false)], args := [d1, d2, d3, d4, d5] }
  | _ => none }
def FnWhollyQuotedHangsOnTheLastPartsEndWrongFalsely : Prop := fnWhollyQuotedHangsOnTheLastPartsEndRow.holds Try.pinned (OpenSpec.ofChange fnWhollyQuotedHangsOnTheLastPartsEndWrong)

end Rows
end Go.Proofs.Qxb6614398a
