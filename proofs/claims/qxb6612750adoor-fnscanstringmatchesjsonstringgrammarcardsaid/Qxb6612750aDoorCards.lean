/-
  DERIVED. GIVEN WITH THE SEED: THE CARDS: each row of Qxb6612750aDoorRows.lean that lists a variable, with what it lists TIED to the program's text (the seventh form; the later family's looks); each row that meets fmt, with fmt's text TOLD by the authors' own Lean function (tested against real Go, not proved from fmt's source: count such statements apart). THE CARD IS WHAT COUNTS. Prove the row's statement (the work); the ties are given (Qxb6612750aDoorTie.lean); close each card by the builder's one call (the guide's Derived/Test/ToyasCard.lean, 'card_holds'). Laid BY PROGRAM, IN A SANDBOX (cutbox-door.mjs). By AI agents, Wed Nov 11 2026. No macro, syntax, notation, axiom, sorry.
-/
import Derived.Test.Qxb6612750aDoorRows
import GoSem.ClaimSeven
namespace Go.Proofs.Qxb6612750aDoor
namespace Rows

/-- THE TIED CARD OF 'zzlaws_internal_rawjson_b1.FnScanStringMatchesJSONStringGrammar'. -/
def fnScanStringMatchesJSONStringGrammarCard : Claim7 := { stood := { row := fnScanStringMatchesJSONStringGrammarRow, standIns := [], harness := (true, "fbb1bb655c5e4ac5ead3f5dcac934f48c24884d79eb0501d5b5dec56d15893f3"), looks := false }, kinds := [], alts := [], laidByText := true, laidKinds := [.data], laidTests := true, laidLooks := .later }
def FnScanStringMatchesJSONStringGrammarCardSaid : Prop := Claim7.holds Tryd.pinned (.plain (OpenSpec.ofChange fnScanStringMatchesJSONStringGrammarSpec)) fnScanStringMatchesJSONStringGrammarCard

/-- THE TIED CARD OF 'zzlaws_internal_rawjson_b1.FnScanStringCutBeforeItsEndRunsOut'. -/
def fnScanStringCutBeforeItsEndRunsOutCard : Claim7 := { stood := { row := fnScanStringCutBeforeItsEndRunsOutRow, standIns := [], harness := (true, "fbb1bb655c5e4ac5ead3f5dcac934f48c24884d79eb0501d5b5dec56d15893f3"), looks := false }, kinds := [], alts := [], laidByText := true, laidKinds := [.data], laidTests := true, laidLooks := .later }
def FnScanStringCutBeforeItsEndRunsOutCardSaid : Prop := Claim7.holds Tryd.pinned (.plain (OpenSpec.ofChange fnScanStringCutBeforeItsEndRunsOutSpec)) fnScanStringCutBeforeItsEndRunsOutCard
end Rows
end Go.Proofs.Qxb6612750aDoor
