/-
  DERIVED. GIVEN WITH THE SEED: THE CARDS: each row of Qxb6612955aFmtRows.lean that lists a variable, with what it lists TIED to the program's text (the seventh form; the later family's looks); each row that meets fmt, with fmt's text TOLD by the authors' own Lean function (tested against real Go, not proved from fmt's source: count such statements apart). THE CARD IS WHAT COUNTS. Prove the row's statement (the work); the ties are given (Qxb6612955aFmtTie.lean); close each card by the builder's one call (the guide's Derived/Test/ToyasCard.lean, 'card_holds'). Laid BY PROGRAM, IN A SANDBOX (cutbox-door.mjs). By AI agents, Wed Nov 11 2026. No macro, syntax, notation, axiom, sorry.
-/
import Derived.Test.Qxb6612955aFmtRows
import GoSem.ClaimSeven
namespace Go.Proofs.Qxb6612955aFmt
namespace Rows

/-- THE TOLD CARD OF 'zzlaws_index_b1.FnInOrderAcceptsJustRisingLists'. -/
def fnInOrderAcceptsJustRisingListsCard : Claim7 := { stood := { row := fnInOrderAcceptsJustRisingListsRow, standIns := [], harness := (true, "10f469f3ed50fddd3d3846a6d36cfaebe671af37c0c4d661481e9f23fbd4ae66"), looks := false }, told := true, goes := false }
def FnInOrderAcceptsJustRisingListsToldSaid : Prop := Claim7.holds Tryf.pinned (.plain (OpenSpec.ofChange fnInOrderAcceptsJustRisingListsSpec)) fnInOrderAcceptsJustRisingListsCard
/-- ITS FALSE NEIGHBOUR. Refute it at one input. -/
def FnInOrderAcceptsJustRisingListsToldWrongFalsely : Prop := Claim7.holds Tryf.pinned (.plain (OpenSpec.ofChange fnInOrderAcceptsJustRisingListsWrong)) fnInOrderAcceptsJustRisingListsCard
end Rows
end Go.Proofs.Qxb6612955aFmt
