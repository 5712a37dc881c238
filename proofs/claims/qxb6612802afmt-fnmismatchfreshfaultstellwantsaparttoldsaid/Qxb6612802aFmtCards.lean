/-
  DERIVED. GIVEN WITH THE SEED: THE CARDS: each row of Qxb6612802aFmtRows.lean that lists a variable, with what it lists TIED to the program's text (the seventh form; the later family's looks); each row that meets fmt, with fmt's text TOLD by the authors' own Lean function (tested against real Go, not proved from fmt's source: count such statements apart). THE CARD IS WHAT COUNTS. Prove the row's statement (the work); the ties are given (Qxb6612802aFmtTie.lean); close each card by the builder's one call (the guide's Derived/Test/ToyasCard.lean, 'card_holds'). Laid BY PROGRAM, IN A SANDBOX (cutbox-door.mjs). By AI agents, Wed Nov 11 2026. No macro, syntax, notation, axiom, sorry.
-/
import Derived.Test.Qxb6612802aFmtRows
import GoSem.ClaimSeven
namespace Go.Proofs.Qxb6612802aFmt
namespace Rows

/-- THE TOLD CARD OF 'zzlaws_internal_strictjson_b1.FnMismatchFreshFaultsTellWantsApart'. -/
def fnMismatchFreshFaultsTellWantsApartCard : Claim7 := { stood := { row := fnMismatchFreshFaultsTellWantsApartRow, standIns := [], harness := (true, "e69b983dc4511bb9199a2cc684188b6bd55c4d3beb95d993bbbd60d624438a93"), looks := true }, told := true, goes := false }
def FnMismatchFreshFaultsTellWantsApartToldSaid : Prop := Claim7.holds Tryf.pinned (.plain (OpenSpec.ofChange fnMismatchFreshFaultsTellWantsApartSpec)) fnMismatchFreshFaultsTellWantsApartCard
/-- ITS FALSE NEIGHBOUR. Refute it at one input. -/
def FnMismatchFreshFaultsTellWantsApartToldWrongFalsely : Prop := Claim7.holds Tryf.pinned (.plain (OpenSpec.ofChange fnMismatchFreshFaultsTellWantsApartWrong)) fnMismatchFreshFaultsTellWantsApartCard

/-- THE TOLD CARD OF 'zzlaws_internal_strictjson_b1.FnDescribeLiteralsAsWrittenStringsHidden'. -/
def fnDescribeLiteralsAsWrittenStringsHiddenCard : Claim7 := { stood := { row := fnDescribeLiteralsAsWrittenStringsHiddenRow, standIns := [], harness := (true, "e69b983dc4511bb9199a2cc684188b6bd55c4d3beb95d993bbbd60d624438a93"), looks := true }, told := true, goes := false }
def FnDescribeLiteralsAsWrittenStringsHiddenToldSaid : Prop := Claim7.holds Tryf.pinned (.plain (OpenSpec.ofChange fnDescribeLiteralsAsWrittenStringsHiddenSpec)) fnDescribeLiteralsAsWrittenStringsHiddenCard
/-- ITS FALSE NEIGHBOUR. Refute it at one input. -/
def FnDescribeLiteralsAsWrittenStringsHiddenToldWrongFalsely : Prop := Claim7.holds Tryf.pinned (.plain (OpenSpec.ofChange fnDescribeLiteralsAsWrittenStringsHiddenWrong)) fnDescribeLiteralsAsWrittenStringsHiddenCard

/-- THE TOLD CARD OF 'zzlaws_internal_strictjson_b1.FnDescribeDelimsNameContainers'. -/
def fnDescribeDelimsNameContainersCard : Claim7 := { stood := { row := fnDescribeDelimsNameContainersRow, standIns := [], harness := (true, "e69b983dc4511bb9199a2cc684188b6bd55c4d3beb95d993bbbd60d624438a93"), looks := true }, told := true, goes := false }
def FnDescribeDelimsNameContainersToldSaid : Prop := Claim7.holds Tryf.pinned (.plain (OpenSpec.ofChange fnDescribeDelimsNameContainersSpec)) fnDescribeDelimsNameContainersCard
/-- ITS FALSE NEIGHBOUR. Refute it at one input. -/
def FnDescribeDelimsNameContainersToldWrongFalsely : Prop := Claim7.holds Tryf.pinned (.plain (OpenSpec.ofChange fnDescribeDelimsNameContainersWrong)) fnDescribeDelimsNameContainersCard
end Rows
end Go.Proofs.Qxb6612802aFmt
