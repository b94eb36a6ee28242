/-
  DERIVED. GIVEN WITH THE SEED: THE CARDS: each row of Qxb6632257aFmtRows.lean that lists a variable, with what it lists TIED to the program's text (the seventh form; the later family's looks); each row that meets fmt, with fmt's text TOLD by the authors' own Lean function (tested against real Go, not proved from fmt's source: count such statements apart). THE CARD IS WHAT COUNTS. Prove the row's statement (the work); the ties are given (Qxb6632257aFmtTie.lean); close each card by the builder's one call (the guide's Derived/Test/ToyasCard.lean, 'card_holds'). Laid BY PROGRAM, IN A SANDBOX (cutbox-door.mjs). By AI agents, Wed Nov 11 2026. No macro, syntax, notation, axiom, sorry.
-/
import Derived.Test.Qxb6632257aFmtRows
import GoSem.ClaimSeven
namespace Go.Proofs.Qxb6632257aFmt
namespace Rows

/-- THE TOLD CARD OF 'zzlaws_internal_latency_b1.FnMeanMillisIsNearestTenthAndScaleFree'. -/
def fnMeanMillisIsNearestTenthAndScaleFreeCard : Claim7 := { stood := { row := fnMeanMillisIsNearestTenthAndScaleFreeRow, standIns := [], harness := (true, "91d3be2710f0b806e771312fe842ab9d65a7c29aa01631db4b7ffd8bea121024"), looks := false }, told := true, goes := false }
def FnMeanMillisIsNearestTenthAndScaleFreeToldSaid : Prop := Claim7.holds Tryf.pinned (.plain (OpenSpec.ofChange fnMeanMillisIsNearestTenthAndScaleFreeSpec)) fnMeanMillisIsNearestTenthAndScaleFreeCard
/-- ITS FALSE NEIGHBOUR. Refute it at one input. -/
def FnMeanMillisIsNearestTenthAndScaleFreeToldWrongFalsely : Prop := Claim7.holds Tryf.pinned (.plain (OpenSpec.ofChange fnMeanMillisIsNearestTenthAndScaleFreeWrong)) fnMeanMillisIsNearestTenthAndScaleFreeCard

/-- THE TOLD CARD OF 'zzlaws_internal_latency_b1.FnMeanMillisShiftsByWholeTenths'. -/
def fnMeanMillisShiftsByWholeTenthsCard : Claim7 := { stood := { row := fnMeanMillisShiftsByWholeTenthsRow, standIns := [], harness := (true, "91d3be2710f0b806e771312fe842ab9d65a7c29aa01631db4b7ffd8bea121024"), looks := false }, told := true, goes := false }
def FnMeanMillisShiftsByWholeTenthsToldSaid : Prop := Claim7.holds Tryf.pinned (.plain (OpenSpec.ofChange fnMeanMillisShiftsByWholeTenthsSpec)) fnMeanMillisShiftsByWholeTenthsCard
/-- ITS FALSE NEIGHBOUR. Refute it at one input. -/
def FnMeanMillisShiftsByWholeTenthsToldWrongFalsely : Prop := Claim7.holds Tryf.pinned (.plain (OpenSpec.ofChange fnMeanMillisShiftsByWholeTenthsWrong)) fnMeanMillisShiftsByWholeTenthsCard
end Rows
end Go.Proofs.Qxb6632257aFmt
