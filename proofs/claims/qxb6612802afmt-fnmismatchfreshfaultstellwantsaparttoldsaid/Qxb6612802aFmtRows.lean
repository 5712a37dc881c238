/-
  No cell of these rows narrows 'for every input' (looked for: loops, veiled, ifaces, maps, wideKeys, modest, calm, conditions, laid).
  DERIVED. THE GIVEN ROWS OF THIS SEAT. 3 by the template 'for every input the law returns true; each argument reads behind the call as it read before'; 0 by the template 'total and deterministic' (their statements: Qxb6612802aFmtTotals.lean).
  GIVEN WITH THE SEED: the statements are not yours to turn. If you find one false, say at which input.
  Laid BY PROGRAM, IN A SANDBOX (cutbox-rows.mjs): the forced cells as the released guide's own fill.sh prints them over the translation 7098cd2e1806456a… (all of the seat's roots in one cut). By AI agents, Wed Nov 11 2026. No macro, syntax, notation, axiom, sorry.
-/
import Derived.Test.Qxb6612802aFmtChecked
import GoSem.Claim
import GoSem.ClaimJoined
import GoSem.ClaimMapViews
import Derived.JoinedTies
import Derived.KernelRfl
namespace Go.Proofs.Qxb6612802aFmt
/- THE CELL 'sum', in the pinned program and in every row, IS THE sha256 OF THE DUMP (.gsa) THAT Qxb6612802aFmtProg.lean LOADS. Nothing in Lean hashes anything: it is a label: what it is worth is what the hold of that sum in a sandbox is worth. -/
noncomputable def Tryf.pinned : Pinned := { name := "qxb6612802afmt", sum := "7098cd2e1806456aa8834acbdfed02967141c663b3b09ea0d6f57abc0f033bdd", checked := Tryf.checked }
namespace Rows
def none {H : Type} : Left H := { results := [], args := [] }

/-- 'zzlaws_internal_strictjson_b1.FnMismatchFreshFaultsTellWantsApart': WHATEVER THE INPUT: true; the input reads as it did. -/
def fnMismatchFreshFaultsTellWantsApartSpec : ChangeSpec := { name := "fnMismatchFreshFaultsTellWantsApart", fn := fun _ => fun
  | [d1, d2, d3, d4] => { results := [.lit (.bool true)], args := [d1, d2, d3, d4] }
  | _ => none }
def fnMismatchFreshFaultsTellWantsApartRow : OpenClaim := { program := "qxb6612802afmt", sum := "7098cd2e1806456aa8834acbdfed02967141c663b3b09ea0d6f57abc0f033bdd", func := "example.com/kleis/kleis/zzlaws_internal_strictjson_b1.FnMismatchFreshFaultsTellWantsApart", spec := "fnMismatchFreshFaultsTellWantsApart", stops := ["fmt.Sprintf", "fmt.Sprint, its operands' methods called"], inPlace := ["fmt.Sprint", "fmt.Sprintf"], unfollowed := true, recurses := true, apart := false }
/-- NO THEOREM (fmt's text is open here; it may be false): for the released tool's asking of the row's closed facts alone. THE STATEMENT IS 'FnMismatchFreshFaultsTellWantsApartToldSaid' (Qxb6612802aFmtCards.lean). -/
def FnMismatchFreshFaultsTellWantsApartFormAsk : Prop := fnMismatchFreshFaultsTellWantsApartRow.holds Tryf.pinned (OpenSpec.ofChange fnMismatchFreshFaultsTellWantsApartSpec)

/-- ITS FALSE NEIGHBOUR: 'it returns false'. Refute it at one input. -/
def fnMismatchFreshFaultsTellWantsApartWrong : ChangeSpec := { name := "fnMismatchFreshFaultsTellWantsApart", fn := fun _ => fun
  | [d1, d2, d3, d4] => { results := [.lit (.bool false)], args := [d1, d2, d3, d4] }
  | _ => none }
def FnMismatchFreshFaultsTellWantsApartWrongFormAsk : Prop := fnMismatchFreshFaultsTellWantsApartRow.holds Tryf.pinned (OpenSpec.ofChange fnMismatchFreshFaultsTellWantsApartWrong)

/-- 'zzlaws_internal_strictjson_b1.FnDescribeLiteralsAsWrittenStringsHidden': WHATEVER THE INPUT: true; the input reads as it did. -/
def fnDescribeLiteralsAsWrittenStringsHiddenSpec : ChangeSpec := { name := "fnDescribeLiteralsAsWrittenStringsHidden", fn := fun _ => fun
  | [d1, d2, d3, d4] => { results := [.lit (.bool true)], args := [d1, d2, d3, d4] }
  | _ => none }
def fnDescribeLiteralsAsWrittenStringsHiddenRow : OpenClaim := { program := "qxb6612802afmt", sum := "7098cd2e1806456aa8834acbdfed02967141c663b3b09ea0d6f57abc0f033bdd", func := "example.com/kleis/kleis/zzlaws_internal_strictjson_b1.FnDescribeLiteralsAsWrittenStringsHidden", spec := "fnDescribeLiteralsAsWrittenStringsHidden", stops := ["fmt.Sprintf", "fmt.Sprint, its operands' methods called"], inPlace := ["fmt.Sprint"], unfollowed := true, recurses := true, apart := false }
/-- NO THEOREM (fmt's text is open here; it may be false): for the released tool's asking of the row's closed facts alone. THE STATEMENT IS 'FnDescribeLiteralsAsWrittenStringsHiddenToldSaid' (Qxb6612802aFmtCards.lean). -/
def FnDescribeLiteralsAsWrittenStringsHiddenFormAsk : Prop := fnDescribeLiteralsAsWrittenStringsHiddenRow.holds Tryf.pinned (OpenSpec.ofChange fnDescribeLiteralsAsWrittenStringsHiddenSpec)

/-- ITS FALSE NEIGHBOUR: 'it returns false'. Refute it at one input. -/
def fnDescribeLiteralsAsWrittenStringsHiddenWrong : ChangeSpec := { name := "fnDescribeLiteralsAsWrittenStringsHidden", fn := fun _ => fun
  | [d1, d2, d3, d4] => { results := [.lit (.bool false)], args := [d1, d2, d3, d4] }
  | _ => none }
def FnDescribeLiteralsAsWrittenStringsHiddenWrongFormAsk : Prop := fnDescribeLiteralsAsWrittenStringsHiddenRow.holds Tryf.pinned (OpenSpec.ofChange fnDescribeLiteralsAsWrittenStringsHiddenWrong)

/-- 'zzlaws_internal_strictjson_b1.FnDescribeDelimsNameContainers': WHATEVER THE INPUT: true; the input reads as it did. -/
def fnDescribeDelimsNameContainersSpec : ChangeSpec := { name := "fnDescribeDelimsNameContainers", fn := fun _ => fun
  | [d1, d2] => { results := [.lit (.bool true)], args := [d1, d2] }
  | _ => none }
def fnDescribeDelimsNameContainersRow : OpenClaim := { program := "qxb6612802afmt", sum := "7098cd2e1806456aa8834acbdfed02967141c663b3b09ea0d6f57abc0f033bdd", func := "example.com/kleis/kleis/zzlaws_internal_strictjson_b1.FnDescribeDelimsNameContainers", spec := "fnDescribeDelimsNameContainers", stops := ["fmt.Sprintf", "fmt.Sprint, its operands' methods called"], inPlace := ["fmt.Sprint"], unfollowed := true, recurses := true, apart := false }
/-- NO THEOREM (fmt's text is open here; it may be false): for the released tool's asking of the row's closed facts alone. THE STATEMENT IS 'FnDescribeDelimsNameContainersToldSaid' (Qxb6612802aFmtCards.lean). -/
def FnDescribeDelimsNameContainersFormAsk : Prop := fnDescribeDelimsNameContainersRow.holds Tryf.pinned (OpenSpec.ofChange fnDescribeDelimsNameContainersSpec)

/-- ITS FALSE NEIGHBOUR: 'it returns false'. Refute it at one input. -/
def fnDescribeDelimsNameContainersWrong : ChangeSpec := { name := "fnDescribeDelimsNameContainers", fn := fun _ => fun
  | [d1, d2] => { results := [.lit (.bool false)], args := [d1, d2] }
  | _ => none }
def FnDescribeDelimsNameContainersWrongFormAsk : Prop := fnDescribeDelimsNameContainersRow.holds Tryf.pinned (OpenSpec.ofChange fnDescribeDelimsNameContainersWrong)

end Rows
end Go.Proofs.Qxb6612802aFmt
