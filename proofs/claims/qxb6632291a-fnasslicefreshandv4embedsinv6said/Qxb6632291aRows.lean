/-
  No cell of these rows narrows 'for every input' (looked for: loops, veiled, ifaces, maps, wideKeys, modest, calm, conditions, laid).
  DERIVED. THE GIVEN ROWS OF THIS SEAT. 2 by the template 'for every input the law returns true; each argument reads behind the call as it read before'; 0 by the template 'total and deterministic' (their statements: Qxb6632291aTotals.lean).
  GIVEN WITH THE SEED: the statements are not yours to turn. If you find one false, say at which input.
  Laid BY PROGRAM, IN A SANDBOX (cutbox-rows.mjs): the forced cells as the released guide's own fill.sh prints them over the translation d3d16e298bf4d1ff… (all of the seat's roots in one cut). By AI agents, Wed Nov 11 2026. No macro, syntax, notation, axiom, sorry.
-/
import Derived.Test.Qxb6632291aChecked
import GoSem.Claim
import GoSem.ClaimJoined
import GoSem.ClaimMapViews
import Derived.JoinedTies
import Derived.KernelRfl
namespace Go.Proofs.Qxb6632291a
/- THE CELL 'sum', in the pinned program and in every row, IS THE sha256 OF THE DUMP (.gsa) THAT Qxb6632291aProg.lean LOADS. Nothing in Lean hashes anything: it is a label: what it is worth is what the hold of that sum in a sandbox is worth. -/
noncomputable def Try.pinned : Pinned := { name := "qxb6632291a", sum := "d3d16e298bf4d1ff4c026ff37258318bd2e08340832413b8489a007c7eff20f5", checked := Try.checked }
namespace Rows
def none {H : Type} : Left H := { results := [], args := [] }

/-- 'zzlaws_rule_b1.FnAsSliceKeepsAddressOrder': WHATEVER THE INPUT: true; the input reads as it did. -/
def fnAsSliceKeepsAddressOrderSpec : ChangeSpec := { name := "fnAsSliceKeepsAddressOrder", fn := fun _ => fun
  | [d1, d2, d3, d4, d5] => { results := [.lit (.bool true)], args := [d1, d2, d3, d4, d5] }
  | _ => none }
def fnAsSliceKeepsAddressOrderRow : OpenClaim := { program := "qxb6632291a", sum := "d3d16e298bf4d1ff4c026ff37258318bd2e08340832413b8489a007c7eff20f5", func := "example.com/vetted-rules/vetted-rules/zzlaws_rule_b1.FnAsSliceKeepsAddressOrder", spec := "fnAsSliceKeepsAddressOrder", apart := false }
def FnAsSliceKeepsAddressOrderSaid : Prop := fnAsSliceKeepsAddressOrderRow.holds Try.pinned (OpenSpec.ofChange fnAsSliceKeepsAddressOrderSpec)

/-- ITS FALSE NEIGHBOUR: 'it returns false'. Refute it at one input. -/
def fnAsSliceKeepsAddressOrderWrong : ChangeSpec := { name := "fnAsSliceKeepsAddressOrder", fn := fun _ => fun
  | [d1, d2, d3, d4, d5] => { results := [.lit (.bool false)], args := [d1, d2, d3, d4, d5] }
  | _ => none }
def FnAsSliceKeepsAddressOrderWrongFalsely : Prop := fnAsSliceKeepsAddressOrderRow.holds Try.pinned (OpenSpec.ofChange fnAsSliceKeepsAddressOrderWrong)

/-- 'zzlaws_rule_b1.FnAsSliceFreshAndV4EmbedsInV6': WHATEVER THE INPUT: true; the input reads as it did. -/
def fnAsSliceFreshAndV4EmbedsInV6Spec : ChangeSpec := { name := "fnAsSliceFreshAndV4EmbedsInV6", fn := fun _ => fun
  | [d1, d2] => { results := [.lit (.bool true)], args := [d1, d2] }
  | _ => none }
def fnAsSliceFreshAndV4EmbedsInV6Row : OpenClaim := { program := "qxb6632291a", sum := "d3d16e298bf4d1ff4c026ff37258318bd2e08340832413b8489a007c7eff20f5", func := "example.com/vetted-rules/vetted-rules/zzlaws_rule_b1.FnAsSliceFreshAndV4EmbedsInV6", spec := "fnAsSliceFreshAndV4EmbedsInV6", apart := false }
def FnAsSliceFreshAndV4EmbedsInV6Said : Prop := fnAsSliceFreshAndV4EmbedsInV6Row.holds Try.pinned (OpenSpec.ofChange fnAsSliceFreshAndV4EmbedsInV6Spec)

/-- ITS FALSE NEIGHBOUR: 'it returns false'. Refute it at one input. -/
def fnAsSliceFreshAndV4EmbedsInV6Wrong : ChangeSpec := { name := "fnAsSliceFreshAndV4EmbedsInV6", fn := fun _ => fun
  | [d1, d2] => { results := [.lit (.bool false)], args := [d1, d2] }
  | _ => none }
def FnAsSliceFreshAndV4EmbedsInV6WrongFalsely : Prop := fnAsSliceFreshAndV4EmbedsInV6Row.holds Try.pinned (OpenSpec.ofChange fnAsSliceFreshAndV4EmbedsInV6Wrong)

end Rows
end Go.Proofs.Qxb6632291a
