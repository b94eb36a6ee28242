/-
  No cell of these rows narrows 'for every input' (looked for: loops, veiled, ifaces, maps, wideKeys, modest, calm, conditions, laid).
  DERIVED. THE GIVEN ROWS OF THIS SEAT. 2 by the template 'for every input the law returns true; each argument reads behind the call as it read before'; 0 by the template 'total and deterministic' (their statements: Qxb6631326aTotals.lean).
  GIVEN WITH THE SEED: the statements are not yours to turn. If you find one false, say at which input.
  Laid BY PROGRAM, IN A SANDBOX (cutbox-rows.mjs): the forced cells as the released guide's own fill.sh prints them over the translation 2a6e2a284b6022f3… (all of the seat's roots in one cut). By AI agents, Wed Nov 11 2026. No macro, syntax, notation, axiom, sorry.
-/
import Derived.Test.Qxb6631326aChecked
import GoSem.Claim
import GoSem.ClaimJoined
import GoSem.ClaimMapViews
import Derived.JoinedTies
import Derived.KernelRfl
namespace Go.Proofs.Qxb6631326a
/- THE CELL 'sum', in the pinned program and in every row, IS THE sha256 OF THE DUMP (.gsa) THAT Qxb6631326aProg.lean LOADS. Nothing in Lean hashes anything: it is a label: what it is worth is what the hold of that sum in a sandbox is worth. -/
noncomputable def Try.pinned : Pinned := { name := "qxb6631326a", sum := "2a6e2a284b6022f3fff5aa53347846ccbfb47c69d09628a2b0162c0986b9e9f6", checked := Try.checked }
namespace Rows
def none {H : Type} : Left H := { results := [], args := [] }

/-- 'zzlaws_root_b1.FnOutcomeOrderFreeAndDoneAtOwnMembership': WHATEVER THE INPUT: true; the input reads as it did. -/
def fnOutcomeOrderFreeAndDoneAtOwnMembershipSpec : ChangeSpec := { name := "fnOutcomeOrderFreeAndDoneAtOwnMembership", fn := fun _ => fun
  | [d1, d2, d3, d4, d5, d6, d7, d8, d9, d10, d11] => { results := [.lit (.bool true)], args := [d1, d2, d3, d4, d5, d6, d7, d8, d9, d10, d11] }
  | _ => none }
def fnOutcomeOrderFreeAndDoneAtOwnMembershipRow : OpenClaim := { program := "qxb6631326a", sum := "2a6e2a284b6022f3fff5aa53347846ccbfb47c69d09628a2b0162c0986b9e9f6", func := "example.com/quorumlog/quorumlog/zzlaws_root_b1.FnOutcomeOrderFreeAndDoneAtOwnMembership", spec := "fnOutcomeOrderFreeAndDoneAtOwnMembership", unfollowed := true, recurses := true, apart := false }
def FnOutcomeOrderFreeAndDoneAtOwnMembershipSaid : Prop := fnOutcomeOrderFreeAndDoneAtOwnMembershipRow.holds Try.pinned (OpenSpec.ofChange fnOutcomeOrderFreeAndDoneAtOwnMembershipSpec)

/-- ITS FALSE NEIGHBOUR: 'it returns false'. Refute it at one input. -/
def fnOutcomeOrderFreeAndDoneAtOwnMembershipWrong : ChangeSpec := { name := "fnOutcomeOrderFreeAndDoneAtOwnMembership", fn := fun _ => fun
  | [d1, d2, d3, d4, d5, d6, d7, d8, d9, d10, d11] => { results := [.lit (.bool false)], args := [d1, d2, d3, d4, d5, d6, d7, d8, d9, d10, d11] }
  | _ => none }
def FnOutcomeOrderFreeAndDoneAtOwnMembershipWrongFalsely : Prop := fnOutcomeOrderFreeAndDoneAtOwnMembershipRow.holds Try.pinned (OpenSpec.ofChange fnOutcomeOrderFreeAndDoneAtOwnMembershipWrong)

/-- 'zzlaws_root_b1.FnOutcomeRivalAtIndexLostOrUnknown': WHATEVER THE INPUT: true; the input reads as it did. -/
def fnOutcomeRivalAtIndexLostOrUnknownSpec : ChangeSpec := { name := "fnOutcomeRivalAtIndexLostOrUnknown", fn := fun _ => fun
  | [d1, d2, d3, d4, d5, d6, d7, d8, d9, d10] => { results := [.lit (.bool true)], args := [d1, d2, d3, d4, d5, d6, d7, d8, d9, d10] }
  | _ => none }
def fnOutcomeRivalAtIndexLostOrUnknownRow : OpenClaim := { program := "qxb6631326a", sum := "2a6e2a284b6022f3fff5aa53347846ccbfb47c69d09628a2b0162c0986b9e9f6", func := "example.com/quorumlog/quorumlog/zzlaws_root_b1.FnOutcomeRivalAtIndexLostOrUnknown", spec := "fnOutcomeRivalAtIndexLostOrUnknown", unfollowed := true, recurses := true, apart := false }
def FnOutcomeRivalAtIndexLostOrUnknownSaid : Prop := fnOutcomeRivalAtIndexLostOrUnknownRow.holds Try.pinned (OpenSpec.ofChange fnOutcomeRivalAtIndexLostOrUnknownSpec)

/-- ITS FALSE NEIGHBOUR: 'it returns false'. Refute it at one input. -/
def fnOutcomeRivalAtIndexLostOrUnknownWrong : ChangeSpec := { name := "fnOutcomeRivalAtIndexLostOrUnknown", fn := fun _ => fun
  | [d1, d2, d3, d4, d5, d6, d7, d8, d9, d10] => { results := [.lit (.bool false)], args := [d1, d2, d3, d4, d5, d6, d7, d8, d9, d10] }
  | _ => none }
def FnOutcomeRivalAtIndexLostOrUnknownWrongFalsely : Prop := fnOutcomeRivalAtIndexLostOrUnknownRow.holds Try.pinned (OpenSpec.ofChange fnOutcomeRivalAtIndexLostOrUnknownWrong)

end Rows
end Go.Proofs.Qxb6631326a
