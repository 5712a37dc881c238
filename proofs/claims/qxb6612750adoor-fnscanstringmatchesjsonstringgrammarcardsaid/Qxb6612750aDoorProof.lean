/-
  FnScanStringMatchesJSONStringGrammar: the row, proved, and its tied card.
-/
import Derived.Test.Qxb6612750aDoorRows
import Derived.Test.Qxb6612750aDoorCards
import Derived.Test.Qxb6612750aDoorTie
import Derived.Test.Qxb6612750aDoorLaw
import Derived.ProofKit
import Derived.LaidMore
import Derived.OpenShut
import Derived.Stop.Joined
import Derived.Lib.LaidTab
import Derived.SevenTiedAt
namespace Go.Proofs.Qxb6612750aDoor
open Go.ChangeShapes Go.WideShapes Go.ChangeAt Go.RowKit

theorem own : ownKnob Tryd.prog.godebug = none := by kernel_rfl
theorem laidOut : laidOutB Tryd.prog = true := by kernel_rfl
/-- The listed variable's name, as the given row spells it. -/
def tabName : String := (Rows.fnScanStringMatchesJSONStringGrammarRow.laid.map (·.1)).headD ""
theorem gTab : Tryd.prog.globalNamed tabName = some 1 := by kernel_rfl
theorem tTab : (Tryd.prog.globals[1]?).map (·.type) = some 40 := by kernel_rfl
theorem cells5 : Tryd.prog.cellsOf 5 = 1 := by kernel_rfl
theorem cells40 : Tryd.prog.cellsOf 40 = 64 := by kernel_rfl

theorem door_met (os : Os) (args : Array Value) : laidMetH Tryd.prog Rows.fnScanStringMatchesJSONStringGrammarRow.laid ((World.doorLaid Tryd.prog 400 os).forCall (fun _ _ => 0) ⟨#[], args, []⟩).memory :=
  laidMetH_of_parts3 (fuel := 8) (laidMet_of_run' 8 (by kernel_rfl) (by kernel_rfl)) (by kernel_rfl) (by kernel_rfl)

/-- What the condition gives the walk: the table's cells. -/
theorem of_laid {W : World} (h : laidMetH Tryd.prog Rows.fnScanStringMatchesJSONStringGrammarRow.laid W) : TabAt 1 Lib.deBruijn64tab W := by
  rw [MakeChecks.laidMetH_plain _ _ _ (by kernel_rfl)] at h
  have h' : laidMet Tryd.prog ((tabName, Lib.tabData .u8 (Lib.deBruijn64tab.map fun n : Nat => (n : Int))) :: []) W := h
  have ht := Lib.tabIs_of_head gTab tTab Tryd.underlying40 Tryd.underlying5 cells5 cells40 h'
  intro j hj
  have := ht.cell gTab j (by simpa using hj)
  rw [this]
  congr 2
  simp [List.getD_eq_getElem?_getD, hj]

set_option maxRecDepth 100000 in
theorem lifted (os : Os) (started : os.Started) (H : Type) (enc : TypeId × Value → H) :
    ReturnsInHanded {} Tryd.checked os 3 .any (fun w args => (Rows.fnScanStringMatchesJSONStringGrammarSpec.pre enc Tryd.prog Tryd.f3 [] false w args ∧ laidMetH Tryd.prog Rows.fnScanStringMatchesJSONStringGrammarRow.laid w) ∧ sizedMet enc Tryd.prog Tryd.f3 (OpenSpec.ofChange Rows.fnScanStringMatchesJSONStringGrammarSpec) false w args)
      (Rows.fnScanStringMatchesJSONStringGrammarSpec.post enc Tryd.prog Tryd.f3 false true false false) := by
  refine returnsInHanded_of_change_and (C := Tryd.checked) (X := fun w _ => laidMetH Tryd.prog Rows.fnScanStringMatchesJSONStringGrammarRow.laid w) (fun _ _ _ hh h => h.of_heap hh) own started (by kernel_rfl) Tryd.func3
    (ChangeSpec.witness_shaped (enc := enc) (C := Tryd.checked) (os := os) (X := fun w _ => laidMetH Tryd.prog Rows.fnScanStringMatchesJSONStringGrammarRow.laid w) false (World.doorLaid Tryd.prog 400 os) #[.slice none 0 0, .int .i64 0] 8 rfl (World.shaped_of_RefB (by kernel_rfl) (by kernel_rfl)) (by kernel_rfl) (by kernel_rfl) (by kernel_rfl) (door_met os _)) ?_
  intro W base args ds gs before hval0 hW _ _ hL _
  have hval : ∀ (j : Nat) t v, Tryd.f3.params[j]? = some t → args[j]? = some v → Value.okWide Tryd.prog W .any base t v := hval0
  have hW' := hW
  obtain ⟨p, q, hA0, hV, rfl, hfz, hnd⟩ := hW
  have hA : DataW.TrodAll enc Tryd.prog W 0 (fun _ => true) true Tryd.f3.params.toList args.toList ds p := hA0
  rw [Tryd.params3] at hA hval
  obtain ⟨v0, v1, d0, d1, p0, p1, rfl, rfl, rfl, h0, h1⟩ := trodAll_two hA
  obtain ⟨rfl, rfl⟩ := trodVars_none hV
  obtain ⟨a0, len0, cap0, rfl⟩ := okWide_slice Tryd.underlying22 (hval 0 22 v0 rfl rfl)
  have k0 := h0
  have lt0 : ∀ x ∈ p0, x.block < W.heap.size := by obtain ⟨m, hm⟩ := k0; exact DataW.trod_lt m _ _ _ hm
  obtain ⟨z0, w0⟩ : ∃ zs, IsRow .u8 W a0 len0 cap0 zs := by
    obtain ⟨fuel, hf⟩ := h0
    rcases open_ints Tryd.underlying22 Tryd.underlying5 (by kernel_rfl) hf with ⟨hcs, _⟩ | ⟨x, l, c, zs, hcs, _, hl, hm, hz, _, hcell, hwz⟩
    · simp [Value.cells] at hcs
      obtain ⟨rfl, rfl, rfl⟩ := hcs
      exact ⟨[], .inl ⟨rfl, rfl, rfl, rfl⟩⟩
    · simp [Value.cells] at hcs
      obtain ⟨rfl, rfl, rfl⟩ := hcs
      exact ⟨zs, .inr ⟨_, rfl, hl, hm, by simpa using hz, hcell, hwz⟩⟩
  obtain ⟨i, rfl, rfl, rfl, wi⟩ := open_int Tryd.underlying3 (hval 1 3 v1 rfl rfl) h1
  have hT := of_laid hL
  clear hA0 hval0
  refine (walk a0 len0 cap0 z0 i W w0 hT).mono fun e W' ⟨he, bel⟩ => ?_
  subst he
  exact ⟨_, rfl, _, _, _, [], _, [], hW', trodAll_mk1 (shut_bool Tryd.underlying4 _), (trodAll_mk2 (Below.trod laidOut (by kernel_rfl) (of_decide_eq_true (by kernel_rfl)) k0 bel lt0) (shut_int Tryd.underlying3 wi)), rfl, bel.frame _, fun h => by cases h⟩

theorem row_holds : Rows.FnScanStringMatchesJSONStringGrammarSaid :=
  OpenClaim.holds_of_wide 3 Tryd.f3 rfl rfl rfl rfl rfl rfl rfl ⟨rfl, rfl, rfl, rfl, rfl⟩ rfl rfl rfl rfl rfl (by kernel_rfl) Tryd.func3 (by kernel_rfl)
    (of_decide_eq_true (by kernel_rfl)) (by unfold Func.isWrapper; first | (rw [if_pos (by decide +kernel)]; kernel_rfl) | (rw [if_neg (by decide +kernel)]; exact ⟨rfl, rfl⟩))
    (fun os started H enc _ => lifted os started H enc)

theorem proved : Rows.FnScanStringMatchesJSONStringGrammarCardSaid :=
  Claim7.holds_tied_plain_at .later [] [.data] true (true, "fbb1bb655c5e4ac5ead3f5dcac934f48c24884d79eb0501d5b5dec56d15893f3") false
    row_holds (fun _ h => by cases h) (by kernel_rfl) (fun _ h => by cases h) fnScanStringMatchesJSONStringGrammar_row_tie rfl ⟨rfl, rfl⟩ (by kernel_rfl) rfl
    (fun f fn hf hfn => by
      obtain rfl : f = 3 := Option.some.inj ((show Tryd.prog.funcNamed Rows.fnScanStringMatchesJSONStringGrammarRow.func = some 3 by kernel_rfl).symm.trans hf) |>.symm
      obtain rfl : fn = Tryd.f3 := (Option.some.inj (Tryd.func3.symm.trans hfn)).symm
      exact ⟨by kernel_rfl, fun j t ht => by
        rw [Tryd.params3] at ht
        rcases j with _ | _ | j
        · obtain rfl : t = 22 := by simpa using ht.symm
          exact (show Tryd.prog.wantsStandIn 22 = false by kernel_rfl)
        · obtain rfl : t = 3 := by simpa using ht.symm
          exact (show Tryd.prog.wantsStandIn 3 = false by kernel_rfl)
        · simp at ht⟩)
    (by kernel_rfl)
#print axioms proved
end Go.Proofs.Qxb6612750aDoor
