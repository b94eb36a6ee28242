/-
  No cell of these rows narrows 'for every input' (looked for: loops, veiled, ifaces, maps, wideKeys, modest, calm, conditions, laid).
  DERIVED. THE GIVEN ROWS OF THIS SEAT. 2 by the template 'for every input the law returns true; each argument reads behind the call as it read before'; 0 by the template 'total and deterministic' (their statements: Qxb6632257aFmtTotals.lean).
  GIVEN WITH THE SEED: the statements are not yours to turn. If you find one false, say at which input.
  Laid BY PROGRAM, IN A SANDBOX (cutbox-rows.mjs): the forced cells as the released guide's own fill.sh prints them over the translation e4dd89f2bba09a47… (all of the seat's roots in one cut). By AI agents, Wed Nov 11 2026. No macro, syntax, notation, axiom, sorry.
-/
import Derived.Test.Qxb6632257aFmtChecked
import GoSem.Claim
import GoSem.ClaimJoined
import GoSem.ClaimMapViews
import Derived.JoinedTies
import Derived.KernelRfl
namespace Go.Proofs.Qxb6632257aFmt
/- THE CELL 'sum', in the pinned program and in every row, IS THE sha256 OF THE DUMP (.gsa) THAT Qxb6632257aFmtProg.lean LOADS. Nothing in Lean hashes anything: it is a label: what it is worth is what the hold of that sum in a sandbox is worth. -/
noncomputable def Tryf.pinned : Pinned := { name := "qxb6632257afmt", sum := "e4dd89f2bba09a47ba28cdc0e6099571a532e966baa7fd6d99ebaa7112517d12", checked := Tryf.checked }
namespace Rows
def none {H : Type} : Left H := { results := [], args := [] }

/-- 'zzlaws_internal_latency_b1.FnMeanMillisIsNearestTenthAndScaleFree': WHATEVER THE INPUT: true; the input reads as it did. -/
def fnMeanMillisIsNearestTenthAndScaleFreeSpec : ChangeSpec := { name := "fnMeanMillisIsNearestTenthAndScaleFree", fn := fun _ => fun
  | [d1, d2, d3] => { results := [.lit (.bool true)], args := [d1, d2, d3] }
  | _ => none }
def fnMeanMillisIsNearestTenthAndScaleFreeRow : OpenClaim := { program := "qxb6632257afmt", sum := "e4dd89f2bba09a47ba28cdc0e6099571a532e966baa7fd6d99ebaa7112517d12", func := "example.com/rimward/rimward/zzlaws_internal_latency_b1.FnMeanMillisIsNearestTenthAndScaleFree", spec := "fnMeanMillisIsNearestTenthAndScaleFree", stops := ["fmt.Sprintf"], inPlace := ["fmt.Sprintf"], apart := false }
/-- NO THEOREM (fmt's text is open here; it may be false): for the released tool's asking of the row's closed facts alone. THE STATEMENT IS 'FnMeanMillisIsNearestTenthAndScaleFreeToldSaid' (Qxb6632257aFmtCards.lean). -/
def FnMeanMillisIsNearestTenthAndScaleFreeFormAsk : Prop := fnMeanMillisIsNearestTenthAndScaleFreeRow.holds Tryf.pinned (OpenSpec.ofChange fnMeanMillisIsNearestTenthAndScaleFreeSpec)

/-- ITS FALSE NEIGHBOUR: 'it returns false'. Refute it at one input. -/
def fnMeanMillisIsNearestTenthAndScaleFreeWrong : ChangeSpec := { name := "fnMeanMillisIsNearestTenthAndScaleFree", fn := fun _ => fun
  | [d1, d2, d3] => { results := [.lit (.bool false)], args := [d1, d2, d3] }
  | _ => none }
def FnMeanMillisIsNearestTenthAndScaleFreeWrongFormAsk : Prop := fnMeanMillisIsNearestTenthAndScaleFreeRow.holds Tryf.pinned (OpenSpec.ofChange fnMeanMillisIsNearestTenthAndScaleFreeWrong)

/-- 'zzlaws_internal_latency_b1.FnMeanMillisShiftsByWholeTenths': WHATEVER THE INPUT: true; the input reads as it did. -/
def fnMeanMillisShiftsByWholeTenthsSpec : ChangeSpec := { name := "fnMeanMillisShiftsByWholeTenths", fn := fun _ => fun
  | [d1, d2, d3] => { results := [.lit (.bool true)], args := [d1, d2, d3] }
  | _ => none }
def fnMeanMillisShiftsByWholeTenthsRow : OpenClaim := { program := "qxb6632257afmt", sum := "e4dd89f2bba09a47ba28cdc0e6099571a532e966baa7fd6d99ebaa7112517d12", func := "example.com/rimward/rimward/zzlaws_internal_latency_b1.FnMeanMillisShiftsByWholeTenths", spec := "fnMeanMillisShiftsByWholeTenths", stops := ["fmt.Sprintf"], inPlace := ["fmt.Sprintf"], apart := false }
/-- NO THEOREM (fmt's text is open here; it may be false): for the released tool's asking of the row's closed facts alone. THE STATEMENT IS 'FnMeanMillisShiftsByWholeTenthsToldSaid' (Qxb6632257aFmtCards.lean). -/
def FnMeanMillisShiftsByWholeTenthsFormAsk : Prop := fnMeanMillisShiftsByWholeTenthsRow.holds Tryf.pinned (OpenSpec.ofChange fnMeanMillisShiftsByWholeTenthsSpec)

/-- ITS FALSE NEIGHBOUR: 'it returns false'. Refute it at one input. -/
def fnMeanMillisShiftsByWholeTenthsWrong : ChangeSpec := { name := "fnMeanMillisShiftsByWholeTenths", fn := fun _ => fun
  | [d1, d2, d3] => { results := [.lit (.bool false)], args := [d1, d2, d3] }
  | _ => none }
def FnMeanMillisShiftsByWholeTenthsWrongFormAsk : Prop := fnMeanMillisShiftsByWholeTenthsRow.holds Tryf.pinned (OpenSpec.ofChange fnMeanMillisShiftsByWholeTenthsWrong)

end Rows
end Go.Proofs.Qxb6632257aFmt
