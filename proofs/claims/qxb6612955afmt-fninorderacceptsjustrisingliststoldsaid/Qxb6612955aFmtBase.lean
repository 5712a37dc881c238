/-
  fmt's facts at this program's one call, and the decoder's functions, walked.
-/
import Derived.Test.Qxb6612955aFmtRows
import Derived.WalkKit
import Derived.WalkSpells
import Derived.WalkLawsBesides
import Derived.Below
import Derived.Stop.CallBack
import Derived.Stop.IfaceNil
import GoSem.ClaimData
namespace Go.Proofs.Qxb6612955aFmt
open Go.RowKit Go.Extern.Stop Go.Stop Go.Extern

theorem hide {p : Prop} (h : p) : Hid p := h

theorem call12 (args : Array Value) (w : World) : (callFunc 12 args).run Tryf.prog w = ((FmtStop.errorf #[9, 36] #[29] args).run Tryf.prog w).andThen fun v w' => .ok (.value v) w' :=
  run_callFunc_extern Tryf.func12 (by kernel_rfl) (by kernel_rfl) (by kernel_rfl) (by kernel_rfl) args w
theorem fguard (name : String) (w : World) : (FmtStop.guard name).run Tryf.prog w = .ok () w := by kernel_rfl
theorem ofmt : FmtStop.printed? ⟨#[37, 115, 32, 37, 113, 32, 97, 102, 116, 101, 114, 32, 37, 113]⟩ 3 = some [(0, 115, false), (1, 113, false), (2, 113, false)] := by kernel_rfl
theorem ofmtr (w : World) : (FmtDoors.printed ⟨#[37, 115, 32, 37, 113, 32, 97, 102, 116, 101, 114, 32, 37, 113]⟩ 3).run Tryf.prog w = .ok [(0, 115, false), (1, 113, false), (2, 113, false)] w := by kernel_rfl
def shape9 : List UInt8 := [12, 6, 0, 0, 0, 0, 0, 0, 0, 115, 116, 114, 105, 110, 103]
theorem op9_115 (name : String) (x : ByteArray) (w : World) : (FmtStop.operand name true 115 false (.iface 9 (.string x))).run Tryf.prog w = .ok (shape9, FmtStop.pack x.data.toList) w := by kernel_rfl
theorem op9_113 (name : String) (x : ByteArray) (w : World) : (FmtStop.operand name true 113 false (.iface 9 (.string x))).run Tryf.prog w = .ok (shape9, FmtStop.pack x.data.toList) w := by kernel_rfl
theorem ptr40 (w : World) : (FmtStop.ptrTo "errors.errorString").run Tryf.prog w = .ok 40 w := by kernel_rfl
theorem elem40 (w : World) : (elemOf 40).run Tryf.prog w = .ok 42 w := by kernel_rfl
theorem neq_err (a : Option Addr) (w : World) : (binOp .neq 29 (.iface 40 (.pointer a)) .nilIface).run Tryf.prog w = .ok (.bool true) w := by kernel_rfl
theorem eql_err (a : Option Addr) (w : World) : (binOp .eql 29 (.iface 40 (.pointer a)) .nilIface).run Tryf.prog w = .ok (.bool false) w := by kernel_rfl
theorem neq_nil (w : World) : (binOp .neq 29 .nilIface .nilIface).run Tryf.prog w = .ok (.bool false) w := by kernel_rfl
theorem eql_nil (w : World) : (binOp .eql 29 .nilIface .nilIface).run Tryf.prog w = .ok (.bool true) w := by kernel_rfl

set_option maxHeartbeats 400000 in
theorem errorf_any (F : Interp) (a b c : ByteArray) (w : World) (A : Nat) (hF : F.answers w.tape) (h0 : w.cell? ⟨A, 0, none⟩ = some (.iface 9 (.string a))) (h1 : w.cell? ⟨A, 1, none⟩ = some (.iface 9 (.string b))) (h2 : w.cell? ⟨A, 2, none⟩ = some (.iface 9 (.string c))) :
    Calls Tryf.prog 11 #[.string ⟨#[37, 115, 32, 37, 113, 32, 97, 102, 116, 101, 114, 32, 37, 113]⟩, .slice (some ⟨A, 0, none⟩) 3 3] w fun e w' => e = .returned (.iface 40 (.pointer (some ⟨w.heap.size, 0, none⟩))) ∧ Below w.heap.size w w' := by
  have hF' := answers_open hF
  have q1 := call12; have q2 := fguard; have q3 := ofmt; have q4 := ofmtr; have q5 := op9_115; have q6 := op9_113; have q7 := ptr40; have q8 := elem40; have q9 := neq_err
  go_enter Tryf.func11, Tryf.ntmps11
  go_wp2
  go_ret
  exact ⟨rfl, ((Below.refl _ w).alloc (Nat.le_refl _) _).drew⟩

set_option maxHeartbeats 400000 in
theorem newDec_any (w : World) :
    Calls Tryf.prog 5 #[.slice none 0 0] w fun e w' => e = .returned (.pointer (some ⟨w.heap.size, 0, none⟩)) ∧ w' = w.alloc (.cells #[.slice none 0 0, .nilIface] 33) := by
  go_enter Tryf.func5, Tryf.ntmps5
  go_wp2
  go_ret
  exact ⟨rfl, rfl⟩

set_option maxHeartbeats 400000 in
theorem decErr_any (D : Nat) (v : Value) (w : World) (h1 : w.cell? ⟨D, 1, none⟩ = some v) :
    Calls Tryf.prog 8 #[.pointer (some ⟨D, 0, none⟩)] w fun e w' => e = .returned v ∧ w' = w := by
  go_enter Tryf.func8, Tryf.ntmps8
  go_wp2
  go_ret
  exact ⟨rfl, rfl⟩

/-- The decoder in block D: it bears an error, or none. -/
def ErrIs : Bool → Nat → World → Prop
  | false, D, w => w.cell? ⟨D, 1, none⟩ = some .nilIface
  | true, D, w => ∃ B : Nat, w.cell? ⟨D, 1, none⟩ = some (.iface 40 (.pointer (some ⟨B, 0, none⟩)))
/-- The decoder of the call that began in the world w0. -/
structure Dec (w0 : World) (D : Nat) (f : Bool) (w : World) : Prop where
  low : w0.heap.size ≤ D
  high : D < w.heap.size
  err : ErrIs f D w
  loose : w.frozen? ⟨D, 1, none⟩ = false
  below : Below w0.heap.size w0 w

/-- The decoder's error is laid, over a world that went on from w. -/
def Laid (D B : Nat) (w w' : World) : Prop := ∃ w2 : World, Below w.heap.size w w2 ∧ w' = w2.setCell ⟨D, 1, none⟩ (.iface 40 (.pointer (some ⟨B, 0, none⟩)))

set_option maxHeartbeats 400000 in
theorem fail_new (F : Interp) (a b c : ByteArray) (w : World) (A D : Nat) (hF : F.answers w.tape) (h0 : w.cell? ⟨A, 0, none⟩ = some (.iface 9 (.string a))) (h1 : w.cell? ⟨A, 1, none⟩ = some (.iface 9 (.string b))) (h2 : w.cell? ⟨A, 2, none⟩ = some (.iface 9 (.string c)))
    (hD : w.cell? ⟨D, 1, none⟩ = some .nilIface) (hf : w.frozen? ⟨D, 1, none⟩ = false) :
    Calls Tryf.prog 10 #[.pointer (some ⟨D, 0, none⟩), .string ⟨#[37, 115, 32, 37, 113, 32, 97, 102, 116, 101, 114, 32, 37, 113]⟩, .slice (some ⟨A, 0, none⟩) 3 3] w fun e w' => e = .returned (.tuple #[]) ∧ Laid D w.heap.size w w' := by
  have q1 := eql_nil
  have hX := errorf_any F a b c w A hF h0 h1 h2
  have HD := hide hD; have HF := hide hf
  clear h0 h1 h2 hF
  go_enter Tryf.func10, Tryf.ntmps10
  go_wp2_with (first | (go_at_call 11; refine hX.mono ?_; rintro e w2 ⟨rfl, hb⟩; have hc2 := cell_later hb HD.out; have hf2 := (hb.frozen (World.block_lt_of_cell? _ _ HD.out)).trans HF.out; have HB := hide hb; clear hb hX hD hf))
  go_end0
  exact ⟨rfl, w2, HB, rfl⟩

set_option maxHeartbeats 400000 in
theorem fail_old (w : World) (f s : Value) (D B : Nat) (hD : w.cell? ⟨D, 1, none⟩ = some (.iface 40 (.pointer (some ⟨B, 0, none⟩)))) :
    Calls Tryf.prog 10 #[.pointer (some ⟨D, 0, none⟩), f, s] w fun e w' => e = .returned (.tuple #[]) ∧ w' = w := by
  have q1 := eql_err
  go_enter Tryf.func10, Tryf.ntmps10
  go_wp2_with fail
  go_end0
  exact ⟨rfl, rfl⟩

/-- 'a <= b' over strings. -/
def le (a b : ByteArray) : Bool := Op.bytesLess a.toList b.toList || a.toList == b.toList

theorem le_false {a b : ByteArray} (h : le a b = false) : Op.bytesLess a.toList b.toList = false ∧ (a.toList == b.toList) = false := Bool.or_eq_false_iff.1 h
theorem le_not {a b : ByteArray} (h : le a b = true) (g : Op.bytesLess a.toList b.toList = false ∧ (a.toList == b.toList) = false) : False := by
  rw [le, g.1, g.2] at h
  exact Bool.false_ne_true h

set_option maxHeartbeats 400000 in
theorem inOrder_first (D : Nat) (what prev name : ByteArray) (w : World) :
    Calls Tryf.prog 9 #[.pointer (some ⟨D, 0, none⟩), .string what, .int .i64 0, .string prev, .string name] w fun e w' => e = .returned (.tuple #[]) ∧ w' = w := by
  go_enter Tryf.func9, Tryf.ntmps9
  go_wp2_with fail
  go_end0
  exact ⟨rfl, rfl⟩

set_option maxHeartbeats 400000 in
theorem inOrder_above (D k : Nat) (what prev name : ByteArray) (w : World) (hk : 0 < k) (hle : le name prev = false) :
    Calls Tryf.prog 9 #[.pointer (some ⟨D, 0, none⟩), .string what, .int .i64 k, .string prev, .string name] w fun e w' => e = .returned (.tuple #[]) ∧ w' = w := by
  have hl1 := (le_false hle).1; have hl2 := (le_false hle).2
  clear hle
  go_enter Tryf.func9, Tryf.ntmps9
  go_wp2_with fail
  go_end0
  exact ⟨rfl, rfl⟩

theorem dec_laid {w0 w w1 w' : World} {D B : Nat} {f : Bool} (h : Dec w0 D f w) (hb : Below w.heap.size w w1) (hl : Laid D B w1 w') : Dec w0 D true w' := by
  obtain ⟨w2, hb2, rfl⟩ := hl
  have h12 : Below w.heap.size w w2 := hb.trans (hb2.mono hb.size)
  have hlt : D < w2.heap.size := Nat.lt_of_lt_of_le h.high h12.size
  have hold : ∃ v, w.cell? ⟨D, 1, none⟩ = some v := by
    cases f with
    | false => exact ⟨_, h.err⟩
    | true => obtain ⟨B, hB⟩ := h.err; exact ⟨_, hB⟩
  obtain ⟨v, hv⟩ := hold
  have hv2 : w2.cell? ⟨D, 1, none⟩ = some v := cell_later h12 hv
  refine ⟨h.low, by simpa [World.setCell] using hlt, ⟨B, ?_⟩, ?_, (h.below.trans (h12.mono h.below.size)).setCell h.low _⟩
  · exact World.cell?_setCell_same _ _ _ hv2
  · rw [World.frozen?_setCell]; exact (h12.frozen h.high).trans h.loose

theorem dec_kept {w0 w w' : World} {D : Nat} {f : Bool} (h : Dec w0 D f w) (hb : Below w.heap.size w w') : Dec w0 D f w' := by
  refine ⟨h.low, Nat.lt_of_lt_of_le h.high hb.size, ?_, (hb.frozen h.high).trans h.loose, h.below.trans (hb.mono h.below.size)⟩
  cases f with
  | false => exact cell_later hb h.err
  | true => obtain ⟨B, hB⟩ := h.err; exact ⟨B, cell_later hb hB⟩

set_option maxHeartbeats 400000 in
theorem inOrder_low (F : Interp) (w0 : World) (f : Bool) (D k : Nat) (what prev name : ByteArray) (w : World) (hk : 0 < k) (hle : le name prev = true) (hF : F.answers w.tape) (hD : Dec w0 D f w) :
    Calls Tryf.prog 9 #[.pointer (some ⟨D, 0, none⟩), .string what, .int .i64 k, .string prev, .string name] w fun e w' => e = .returned (.tuple #[]) ∧ Dec w0 D true w' := by
  have HD := hide hD; have HF := hide hF; have HL := hide hle
  clear hD hF hle
  go_enter Tryf.func9, Tryf.ntmps9
  go_wp2_with fail
  · have HB : Hid (Below w.heap.size w (w.alloc (.cells #[.iface 9 (.string what), .iface 9 (.string name), .iface 9 (.string prev)] 20))) := (Below.refl _ w).alloc (Nat.le_refl _) _
    cases f with
    | true =>
      obtain ⟨B, hB⟩ := HD.out.err
      refine (fail_old _ _ _ D B (cell_later HB.out hB)).mono ?_
      rintro e w' ⟨rfl, rfl⟩
      go_wp2_with fail
      go_end0
      exact ⟨rfl, dec_kept HD.out HB.out⟩
    | false =>
      refine (fail_new F what name prev _ w.heap.size D (by rw [HB.out.tape]; exact HF.out) (by simp) (by simp) (by simp) (cell_later HB.out HD.out.err) ((HB.out.frozen HD.out.high).trans HD.out.loose)).mono ?_
      rintro e w' ⟨rfl, hl⟩
      have HE : Hid (Dec w0 D true w') := dec_laid HD.out HB.out hl
      clear hl
      go_wp2_with fail
      go_end0
      exact ⟨rfl, HE.out⟩
  · have hno : Op.bytesLess name.toList prev.toList = false ∧ (name.toList == prev.toList) = false := by assumption
    exact (le_not HL.out hno).elim

set_option maxHeartbeats 400000 in
theorem zzInOrder_of (D k : Nat) (what prev name : ByteArray) (w : World) (Q : World → Prop) (h : Calls Tryf.prog 9 #[.pointer (some ⟨D, 0, none⟩), .string what, .int .i64 k, .string prev, .string name] w fun e w' => e = .returned (.tuple #[]) ∧ Q w') :
    Calls Tryf.prog 7 #[.pointer (some ⟨D, 0, none⟩), .string what, .int .i64 k, .string prev, .string name] w fun e w' => e = .returned (.tuple #[]) ∧ Q w' := by
  go_enter Tryf.func7, Tryf.ntmps7
  go_wp2_with fail
  refine h.mono ?_
  rintro e w' ⟨rfl, hq⟩
  clear h
  have HQ := hide hq
  clear hq
  go_wp2_with fail
  go_end0
  exact ⟨rfl, HQ⟩

/-- One name is asked: the decoder fails exactly when it did before or the name is not above the one before it. -/
theorem asked (F : Interp) (w0 : World) (f : Bool) (D k : Nat) (what prev name : ByteArray) (w : World) (hF : F.answers w.tape) (hD : Dec w0 D f w) :
    Calls Tryf.prog 7 #[.pointer (some ⟨D, 0, none⟩), .string what, .int .i64 k, .string prev, .string name] w fun e w' => e = .returned (.tuple #[]) ∧ Dec w0 D (f || (decide (0 < k) && le name prev)) w' := by
  refine zzInOrder_of D k what prev name w _ ?_
  by_cases hk : 0 < k
  · cases hl : le name prev with
    | false =>
      refine (inOrder_above D k what prev name w hk hl).mono ?_
      rintro e w' ⟨rfl, rfl⟩
      exact ⟨rfl, by simpa using hD⟩
    | true =>
      refine (inOrder_low F w0 f D k what prev name w hk hl hF hD).mono ?_
      rintro e w' ⟨rfl, h⟩
      exact ⟨rfl, by simpa [hk] using h⟩
  · obtain rfl : k = 0 := by omega
    refine (inOrder_first D what prev name w).mono ?_
    rintro e w' ⟨rfl, rfl⟩
    exact ⟨rfl, by simpa using hD⟩

end Go.Proofs.Qxb6612955aFmt
