/-
  No cell of these rows narrows 'for every input' (looked for: loops, veiled, ifaces, maps, wideKeys, modest, calm, conditions, laid).
  DERIVED. THE GIVEN ROWS OF THIS SEAT. 1 by the template 'for every input the law returns true; each argument reads behind the call as it read before'; 0 by the template 'total and deterministic' (their statements: Qxb6612955aFmtTotals.lean).
  GIVEN WITH THE SEED: the statements are not yours to turn. If you find one false, say at which input.
  Laid BY PROGRAM, IN A SANDBOX (cutbox-rows.mjs): the forced cells as the released guide's own fill.sh prints them over the translation 1709b25043c993f7… (all of the seat's roots in one cut). By AI agents, Wed Nov 11 2026. No macro, syntax, notation, axiom, sorry.
-/
import Derived.Test.Qxb6612955aFmtChecked
import GoSem.Claim
import GoSem.ClaimJoined
import GoSem.ClaimMapViews
import Derived.JoinedTies
import Derived.KernelRfl
namespace Go.Proofs.Qxb6612955aFmt
/- THE CELL 'sum', in the pinned program and in every row, IS THE sha256 OF THE DUMP (.gsa) THAT Qxb6612955aFmtProg.lean LOADS. Nothing in Lean hashes anything: it is a label: what it is worth is what the hold of that sum in a sandbox is worth. -/
noncomputable def Tryf.pinned : Pinned := { name := "qxb6612955afmt", sum := "1709b25043c993f74ead0371a64644dae9cd55790df4ac6701d808f90e582348", checked := Tryf.checked }
namespace Rows
def none {H : Type} : Left H := { results := [], args := [] }

/-- 'zzlaws_index_b1.FnInOrderAcceptsJustRisingLists': WHATEVER THE INPUT: true; the input reads as it did. -/
def fnInOrderAcceptsJustRisingListsSpec : ChangeSpec := { name := "fnInOrderAcceptsJustRisingLists", fn := fun _ => fun
  | [d1, d2] => { results := [.lit (.bool true)], args := [d1, d2] }
  | _ => none }
def fnInOrderAcceptsJustRisingListsRow : OpenClaim := { program := "qxb6612955afmt", sum := "1709b25043c993f74ead0371a64644dae9cd55790df4ac6701d808f90e582348", func := "example.com/glass-rank/glass-rank/zzlaws_index_b1.FnInOrderAcceptsJustRisingLists", spec := "fnInOrderAcceptsJustRisingLists", stops := ["fmt.errorf"], inPlace := ["fmt.errorf"], apart := false }
/-- NO THEOREM (fmt's text is open here; it may be false): for the released tool's asking of the row's closed facts alone. THE STATEMENT IS 'FnInOrderAcceptsJustRisingListsToldSaid' (Qxb6612955aFmtCards.lean). -/
def FnInOrderAcceptsJustRisingListsFormAsk : Prop := fnInOrderAcceptsJustRisingListsRow.holds Tryf.pinned (OpenSpec.ofChange fnInOrderAcceptsJustRisingListsSpec)

/-- ITS FALSE NEIGHBOUR: 'it returns false'. Refute it at one input. -/
def fnInOrderAcceptsJustRisingListsWrong : ChangeSpec := { name := "fnInOrderAcceptsJustRisingLists", fn := fun _ => fun
  | [d1, d2] => { results := [.lit (.bool false)], args := [d1, d2] }
  | _ => none }
def FnInOrderAcceptsJustRisingListsWrongFormAsk : Prop := fnInOrderAcceptsJustRisingListsRow.holds Tryf.pinned (OpenSpec.ofChange fnInOrderAcceptsJustRisingListsWrong)

end Rows
end Go.Proofs.Qxb6612955aFmt
