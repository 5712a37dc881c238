/-
  fmt's facts at this program's one call, and mismatch with its fronts, walked.
-/
import Derived.Test.Qxb6612802aFmtDescribe
import Derived.Stop.CallBack
import Derived.Stop.IfaceNil
import GoSem.ClaimData
import Derived.Stop.FmtTextKit
import Derived.Stop.Texts
import Derived.Stop.Told
namespace Go.Proofs.Qxb6612802aFmt
open Go.RowKit Go.Extern.Stop Go.Stop Go.Extern

theorem call23 (args : Array Value) (w : World) : (callFunc 23 args).run Tryf.prog w = ((FmtStop.sprintf #[9, 63] #[9] args).run Tryf.prog w).andThen fun v w' => .ok (.value v) w' :=
  run_callFunc_extern Tryf.func23 (by kernel_rfl) (by kernel_rfl) (by kernel_rfl) (by kernel_rfl) args w
theorem fguard (name : String) (w : World) : (FmtStop.guard name).run Tryf.prog w = .ok () w := by kernel_rfl
theorem wfmt : FmtStop.printed? ⟨#[119, 97, 110, 116, 32, 37, 115, 44, 32, 103, 111, 116, 32, 37, 115]⟩ 2 = some [(0, 115, false), (1, 115, false)] := by kernel_rfl
theorem wfmtr (w : World) : (FmtDoors.printed ⟨#[119, 97, 110, 116, 32, 37, 115, 44, 32, 103, 111, 116, 32, 37, 115]⟩ 2).run Tryf.prog w = .ok [(0, 115, false), (1, 115, false)] w := by kernel_rfl
def shape9 : List UInt8 := [12, 6, 0, 0, 0, 0, 0, 0, 0, 115, 116, 114, 105, 110, 103]
theorem op9_115 (name : String) (x : ByteArray) (w : World) : (FmtStop.operand name false 115 false (.iface 9 (.string x))).run Tryf.prog w = .ok (shape9, FmtStop.pack x.data.toList) w := by kernel_rfl

/-- What fmt is asked. -/
def reading (a d : List UInt8) : List (List UInt8) := [[119, 97, 110, 116, 32, 37, 115, 44, 32, 103, 111, 116, 32, 37, 115], shape9, FmtStop.pack a, shape9, FmtStop.pack d]
/-- The very bytes: "want A, got D". -/
def wtext (a d : List UInt8) : List UInt8 := [119, 97, 110, 116, 32] ++ a ++ [44, 32, 103, 111, 116, 32] ++ d
theorem wparse : (FmtText.parse [119, 97, 110, 116, 32, 37, 115, 44, 32, 103, 111, 116, 32, 37, 115]).map FmtText.glue = some [.lit [119, 97, 110, 116, 32], .verb {} 115, .lit [44, 32, 103, 111, 116, 32], .verb {} 115] := by rfl
theorem wlaw (a d : List UInt8) (la : a.length < 2 ^ 64) (ld : d.length < 2 ^ 64) : FmtText.text "fmt.Sprintf" (reading a d) = some (wtext a d) := by
  rw [reading, FmtText.text_sprintf_glued wparse (FmtText.operands_cons (FmtText.operand_str_at (sh := shape9) rfl rfl a la) (FmtText.operands_cons (FmtText.operand_str_at (sh := shape9) rfl rfl d ld) FmtText.operands_nil))]
  simp [FmtText.render, FmtText.printArg_s_str, wtext]
theorem wtold (F : Interp) (a d : List UInt8) (la : a.length ≤ 1048576) (ld : d.length ≤ 1048576) : (FmtStop.textOf (F.told "fmt.Sprintf" (reading a d) 0)).data.toList = wtext a d := by
  rw [Go.Kit.textOf_list]
  refine told_string F (wlaw a d (by omega) (by omega)) ?_
  simp [wtext]
  omega

/-- "want A, got D", as a string's bytes. -/
def msg (a d : ByteArray) : ByteArray := ⟨#[119, 97, 110, 116, 32]⟩ ++ a ++ ⟨#[44, 32, 103, 111, 116, 32]⟩ ++ d
theorem bytes_ext {a b : ByteArray} (h : a.data.toList = b.data.toList) : a = b := ByteArray.ext (Array.ext' h)
theorem told_msg (F : Interp) (a d : ByteArray) (ha : a.size ≤ 1048576) (hd : d.size ≤ 1048576) : FmtStop.textOf (F.told "fmt.Sprintf" (reading a.data.toList d.data.toList) 0) = msg a d := by
  apply bytes_ext
  rw [wtold F _ _ (by simpa using ha) (by simpa using hd)]
  simp [msg, wtext]

/-- A fault in block B: its path P and its message T. -/
def Lies (B : Nat) (P T : ByteArray) (w : World) : Prop := w.heap[B]? = some (.cells #[.string P, .string T] 41)
theorem Lies.path {B : Nat} {P T : ByteArray} {w : World} (h : Lies B P T w) : w.cell? ⟨B, 0, none⟩ = some (.string P) := by
  unfold Lies at h
  simp [World.cell?, h]
theorem Lies.text {B : Nat} {P T : ByteArray} {w : World} (h : Lies B P T w) : w.cell? ⟨B, 1, none⟩ = some (.string T) := by
  unfold Lies at h
  simp [World.cell?, h]
theorem Lies.loose {B : Nat} {P T : ByteArray} {w : World} (h : Lies B P T w) : w.frozen? ⟨B, 0, none⟩ = false := by
  unfold Lies at h
  simp [World.frozen?, h]
theorem Lies.later {B : Nat} {P T : ByteArray} {w w' : World} (h : Lies B P T w) (hB : B < w.heap.size) (b : Below w.heap.size w w') : Lies B P T w' := (b.block B hB).trans h

/-- How a new fault lies: in a new block, with an empty path and the message 'want A, got D'. -/
def Made (w : World) (a d : ByteArray) (mk : Value → Value) (e : Ending) (w' : World) : Prop :=
  ∃ B : Nat, e = .returned (mk (.pointer (some ⟨B, 0, none⟩))) ∧ w.heap.size ≤ B ∧ B < w'.heap.size ∧ Lies B ⟨#[]⟩ (msg a d) w' ∧ Below w.heap.size w w'

/-- What describe says of the token. -/
def Says (v : Value) (d : ByteArray) : Prop := ∀ w, Calls Tryf.prog 22 #[v] w fun e w' => e = .returned (.string d) ∧ w' = w

theorem made_new (w : World) (a d T : ByteArray) (c : Array Value) (h : T = msg a d) : Made w a d (.iface 23 ·) (.returned (.iface 23 (.pointer (some ⟨w.heap.size + 1, 0, none⟩)))) ((w.alloc (.cells c 20)).alloc (.cells #[.string ⟨#[]⟩, .string T] 41)).drew := by
  subst h
  refine ⟨w.heap.size + 1, rfl, Nat.le_succ _, by simp, ?_, (((Below.refl _ w).alloc (Nat.le_refl _) _).alloc (by simp) _).drew⟩
  show ((w.heap.push _).push _)[w.heap.size + 1]? = _
  rw [Array.getElem?_push, if_pos (by simp)]

set_option maxHeartbeats 400000 in
theorem mismatch_any (F : Interp) (a d : ByteArray) (v : Value) (w : World) (hF : F.told.answers w.tape) (hv : Says v d) (ha : a.size ≤ 1048576) (hd : d.size ≤ 1048576) :
    Calls Tryf.prog 20 #[.string a, v] w fun e w' => Made w a d (.iface 23 ·) e w' := by
  have hF' := answers_open hF
  have q1 := call23; have q2 := fguard; have q3 := wfmt; have q4 := wfmtr; have q5 := op9_115
  have hX := hv w
  clear hv
  go_enter Tryf.func20, Tryf.ntmps20
  go_wp2_with (first | (go_at_call 22; refine hX.mono ?_; rintro e w2 ⟨rfl, rfl⟩; clear hX))
  go_ret
  exact made_new w2 a d _ _ (told_msg F a d ha hd)

theorem assert_fault (a : Option Addr) (w : World) : (Instr.typeAssert (.iface 23 (.pointer a)) 37 23 true).run Tryf.prog w = .ok (.tuple #[.pointer a, .bool true]) w := by kernel_rfl

theorem Made.turn {w w' : World} {a d : ByteArray} {mk' : Value → Value} {B : Nat} (h : w.heap.size ≤ B ∧ B < w'.heap.size ∧ Lies B ⟨#[]⟩ (msg a d) w' ∧ Below w.heap.size w w') : Made w a d mk' (.returned (mk' (.pointer (some ⟨B, 0, none⟩)))) w' := ⟨B, rfl, h⟩

/-- The fault and 'true', in one tuple. -/
def both (v : Value) : Value := .tuple #[v, .bool true]

set_option maxHeartbeats 400000 in
theorem zmBool_any (F : Interp) (a : ByteArray) (b : Bool) (w : World) (hF : F.told.answers w.tape) (ha : a.size ≤ 1048576) :
    Calls Tryf.prog 7 #[.string a, .bool b] w fun e w' => Made w a (litOf b) both e w' := by
  have hta := assert_fault
  have hX := mismatch_any F a (litOf b) (.iface 4 (.bool b)) w hF (fun w => describe_bool b w) ha (by cases b <;> decide)
  go_enter Tryf.func7, Tryf.ntmps7
  go_wp2_with (first | (go_at_call 20; refine hX.mono ?_; rintro e w2 ⟨B, rfl, HM⟩; clear hX))
  go_ret2
  exact Made.turn HM

set_option maxHeartbeats 400000 in
theorem zmNum_any (F : Interp) (a n : ByteArray) (w : World) (hF : F.told.answers w.tape) (ha : a.size ≤ 1048576) (hn : n.size ≤ 1048576) :
    Calls Tryf.prog 8 #[.string a, .string n] w fun e w' => Made w a n both e w' := by
  have hta := assert_fault
  have hX := mismatch_any F a n (.iface 39 (.string n)) w hF (fun w => describe_num n w) ha hn
  go_enter Tryf.func8, Tryf.ntmps8
  go_wp2_with (first | (go_at_call 20; refine hX.mono ?_; rintro e w2 ⟨B, rfl, HM⟩; clear hX))
  go_ret2
  exact Made.turn HM

set_option maxHeartbeats 400000 in
theorem zmNull_any (F : Interp) (a : ByteArray) (w : World) (hF : F.told.answers w.tape) (ha : a.size ≤ 1048576) :
    Calls Tryf.prog 9 #[.string a] w fun e w' => Made w a nullS both e w' := by
  have hta := assert_fault
  have hX := mismatch_any F a nullS .nilIface w hF (fun w => describe_nil w) ha (by decide)
  go_enter Tryf.func9, Tryf.ntmps9
  go_wp2_with (first | (go_at_call 20; refine hX.mono ?_; rintro e w2 ⟨B, rfl, HM⟩; clear hX))
  go_ret2
  exact Made.turn HM

theorem empty_list : (⟨#[]⟩ : ByteArray).toList.isEmpty = true := by rw [ByteArray.toList_eq]; rfl

set_option maxHeartbeats 400000 in
theorem within_top (B : Nat) (s : ByteArray) (w : World) (h0 : w.cell? ⟨B, 0, none⟩ = some (.string ⟨#[]⟩)) (f0 : w.frozen? ⟨B, 0, none⟩ = false) :
    Calls Tryf.prog 21 #[.iface 23 (.pointer (some ⟨B, 0, none⟩)), .string s] w fun e w' => e = .returned (.iface 23 (.pointer (some ⟨B, 0, none⟩))) ∧ w' = w.setCell ⟨B, 0, none⟩ (.string s) := by
  have hta := assert_fault
  go_enter Tryf.func21, Tryf.ntmps21
  go_wp2
  go_ret
  exact ⟨rfl, rfl⟩

set_option maxHeartbeats 400000 in
theorem zwithin_top (B : Nat) (s : ByteArray) (w : World) (h0 : w.cell? ⟨B, 0, none⟩ = some (.string ⟨#[]⟩)) (f0 : w.frozen? ⟨B, 0, none⟩ = false) :
    Calls Tryf.prog 12 #[.pointer (some ⟨B, 0, none⟩), .string s] w fun e w' => e = .returned (.tuple #[.pointer (some ⟨B, 0, none⟩), .bool true]) ∧ w' = w.setCell ⟨B, 0, none⟩ (.string s) := by
  have hta := assert_fault
  have hX := within_top B s w h0 f0
  clear h0 f0
  go_enter Tryf.func12, Tryf.ntmps12
  go_wp2_with (first | (go_at_call 21; refine hX.mono ?_; rintro e w2 ⟨rfl, rfl⟩))
  go_ret2
  exact ⟨rfl, rfl⟩

set_option maxHeartbeats 400000 in
theorem faultPath_any (B : Nat) (P : ByteArray) (w : World) (h0 : w.cell? ⟨B, 0, none⟩ = some (.string P)) :
    Calls Tryf.prog 11 #[.pointer (some ⟨B, 0, none⟩)] w fun e w' => e = .returned (.string P) ∧ w' = w := by
  go_enter Tryf.func11, Tryf.ntmps11
  go_wp2
  go_ret
  exact ⟨rfl, rfl⟩

set_option maxHeartbeats 400000 in
theorem faultMsg_any (B : Nat) (m : ByteArray) (w : World) (h1 : w.cell? ⟨B, 1, none⟩ = some (.string m)) :
    Calls Tryf.prog 10 #[.pointer (some ⟨B, 0, none⟩)] w fun e w' => e = .returned (.string m) ∧ w' = w := by
  go_enter Tryf.func10, Tryf.ntmps10
  go_wp2
  go_ret
  exact ⟨rfl, rfl⟩

end Go.Proofs.Qxb6612802aFmt
