/-
  No cell of these rows narrows 'for every input' (looked for: loops, veiled, ifaces, maps, wideKeys, modest, calm, conditions, laid).
  DERIVED. THE GIVEN ROWS OF THIS SEAT. 2 by the template 'for every input the law returns true; each argument reads behind the call as it read before'; 0 by the template 'total and deterministic' (their statements: Qxb6631269aTotals.lean).
  GIVEN WITH THE SEED: the statements are not yours to turn. If you find one false, say at which input.
  Laid BY PROGRAM, IN A SANDBOX (cutbox-rows.mjs): the forced cells as the released guide's own fill.sh prints them over the translation 34a02775eb32f3fa… (all of the seat's roots in one cut). By AI agents, Wed Nov 11 2026. No macro, syntax, notation, axiom, sorry.
-/
import Derived.Test.Qxb6631269aChecked
import GoSem.Claim
import GoSem.ClaimJoined
import GoSem.ClaimMapViews
import Derived.JoinedTies
import Derived.KernelRfl
namespace Go.Proofs.Qxb6631269a
/- THE CELL 'sum', in the pinned program and in every row, IS THE sha256 OF THE DUMP (.gsa) THAT Qxb6631269aProg.lean LOADS. Nothing in Lean hashes anything: it is a label: what it is worth is what the hold of that sum in a sandbox is worth. -/
noncomputable def Try.pinned : Pinned := { name := "qxb6631269a", sum := "34a02775eb32f3fac218e3c36a606478bfab97690b53e002403203949bceccbc", checked := Try.checked }
namespace Rows
def none {H : Type} : Left H := { results := [], args := [] }

/-- 'zzlaws_csvfile_b1.FnMadeOfCutAgreesWithParts': WHATEVER THE INPUT: true; the input reads as it did. -/
def fnMadeOfCutAgreesWithPartsSpec : ChangeSpec := { name := "fnMadeOfCutAgreesWithParts", fn := fun _ => fun
  | [d1, d2, d3, d4] => { results := [.lit (.bool true)], args := [d1, d2, d3, d4] }
  | _ => none }
def fnMadeOfCutAgreesWithPartsRow : OpenClaim := { program := "qxb6631269a", sum := "34a02775eb32f3fac218e3c36a606478bfab97690b53e002403203949bceccbc", func := "example.com/tuoguan/tuoguan/zzlaws_csvfile_b1.FnMadeOfCutAgreesWithParts", spec := "fnMadeOfCutAgreesWithParts", apart := false }
def FnMadeOfCutAgreesWithPartsSaid : Prop := fnMadeOfCutAgreesWithPartsRow.holds Try.pinned (OpenSpec.ofChange fnMadeOfCutAgreesWithPartsSpec)

/-- ITS FALSE NEIGHBOUR: 'it returns false'. Refute it at one input. -/
def fnMadeOfCutAgreesWithPartsWrong : ChangeSpec := { name := "fnMadeOfCutAgreesWithParts", fn := fun _ => fun
  | [d1, d2, d3, d4] => { results := [.lit (.bool false)], args := [d1, d2, d3, d4] }
  | _ => none }
def FnMadeOfCutAgreesWithPartsWrongFalsely : Prop := fnMadeOfCutAgreesWithPartsRow.holds Try.pinned (OpenSpec.ofChange fnMadeOfCutAgreesWithPartsWrong)

/-- 'zzlaws_csvfile_b1.FnMadeOfRangeIntersection': WHATEVER THE INPUT: true; the input reads as it did. -/
def fnMadeOfRangeIntersectionSpec : ChangeSpec := { name := "fnMadeOfRangeIntersection", fn := fun _ => fun
  | [d1, d2, d3, d4, d5] => { results := [.lit (.bool true)], args := [d1, d2, d3, d4, d5] }
  | _ => none }
def fnMadeOfRangeIntersectionRow : OpenClaim := { program := "qxb6631269a", sum := "34a02775eb32f3fac218e3c36a606478bfab97690b53e002403203949bceccbc", func := "example.com/tuoguan/tuoguan/zzlaws_csvfile_b1.FnMadeOfRangeIntersection", spec := "fnMadeOfRangeIntersection", apart := false }
def FnMadeOfRangeIntersectionSaid : Prop := fnMadeOfRangeIntersectionRow.holds Try.pinned (OpenSpec.ofChange fnMadeOfRangeIntersectionSpec)

/-- ITS FALSE NEIGHBOUR: 'it returns false'. Refute it at one input. -/
def fnMadeOfRangeIntersectionWrong : ChangeSpec := { name := "fnMadeOfRangeIntersection", fn := fun _ => fun
  | [d1, d2, d3, d4, d5] => { results := [.lit (.bool false)], args := [d1, d2, d3, d4, d5] }
  | _ => none }
def FnMadeOfRangeIntersectionWrongFalsely : Prop := fnMadeOfRangeIntersectionRow.holds Try.pinned (OpenSpec.ofChange fnMadeOfRangeIntersectionWrong)

end Rows
end Go.Proofs.Qxb6631269a
