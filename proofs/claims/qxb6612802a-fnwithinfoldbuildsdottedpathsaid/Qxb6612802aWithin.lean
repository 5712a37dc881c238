/-
  within, ZZWithin, ZZNewFault, ZZFaultPath, ZZFaultMsg, walked.
-/
import Derived.Test.Qxb6612802aRows
import Derived.Test.Qxb6612802aPlain
import Derived.WalkKit
import Derived.WalkSpells
import Derived.WalkLawsBesides
namespace Go.Proofs.Qxb6612802a
open Go.RowKit

theorem hide {p : Prop} (h : p) : Hid p := h

theorem assert_fault (a : Option Addr) (w : World) : (Instr.typeAssert (.iface 28 (.pointer a)) 36 28 true).run Try.prog w = .ok (.tuple #[.pointer a, .bool true]) w := by kernel_rfl

theorem list_head (P : ByteArray) (h : 0 < P.size) : ∃ t, P.data.toList = P[0] :: t := by
  have h' : 0 < P.data.toList.length := by simpa using h
  refine ⟨P.data.toList.drop 1, ?_⟩
  have := List.drop_eq_getElem_cons h'
  rw [List.drop_zero] at this
  exact this

theorem data_append (a b : ByteArray) : (a ++ b).data.toList = a.data.toList ++ b.data.toList := by simp

theorem empty_iff (P : ByteArray) : P.toList.isEmpty = true ↔ P.size = 0 := by
  rw [ByteArray.toList_eq, List.isEmpty_iff]
  constructor
  · intro h; have := congrArg List.length h; simpa using this
  · intro h; exact List.eq_nil_of_length_eq_zero (by simpa using h)

theorem join_empty (s P : ByteArray) (h : P.size = 0) : s.data.toList = Plain.join s.data.toList P.data.toList := by
  rw [List.eq_nil_of_length_eq_zero (show P.data.toList.length = 0 by simpa using h)]; rfl

theorem byte_eq {c : UInt8} {n : Nat} (hn : n < 256) (h : ((c.toNat : Int) == (n : Int)) = true) : c = UInt8.ofNat n := by
  have : (c.toNat : Int) = n := by simpa using h
  apply UInt8.toNat_inj.1
  simp; omega

theorem byte_ne {c : UInt8} {n : Nat} (hn : n < 256) (h : ((c.toNat : Int) == (n : Int)) = false) : c ≠ UInt8.ofNat n := by
  intro e
  have h1 : ¬ (c.toNat : Int) = n := by simpa using h
  subst e
  simp at h1; omega

theorem join_bracket (s P : ByteArray) (h : 0 < P.size) (hc : ((P[0].toNat : Int) == 91) = true) : (s ++ P).data.toList = Plain.join s.data.toList P.data.toList := by
  obtain ⟨t, ht⟩ := list_head P h
  have e : P[0] = 91 := byte_eq (n := 91) (by decide) hc
  rw [data_append, ht, e]
  simp [Plain.join]

theorem join_plain (s P : ByteArray) (h : 0 < P.size) (hc : ((P[0].toNat : Int) == 91) = false) : (s ++ ⟨#[46]⟩ ++ P).data.toList = Plain.join s.data.toList P.data.toList := by
  obtain ⟨t, ht⟩ := list_head P h
  have e : P[0] ≠ 91 := byte_ne (n := 91) (by decide) hc
  rw [data_append, data_append, ht]
  simp [Plain.join, e]

/-- How 'within' leaves the fault in block F: its path is joined to the step. -/
def Joined (F : Nat) (P s : ByteArray) (w w' : World) : Prop := ∃ Q : ByteArray, w' = w.setCell ⟨F, 0, none⟩ (.string Q) ∧ Q.data.toList = Plain.join s.data.toList P.data.toList

set_option maxHeartbeats 400000 in
theorem within_any (F : Nat) (P s : ByteArray) (w : World) (h0 : w.cell? ⟨F, 0, none⟩ = some (.string P)) (f0 : w.frozen? ⟨F, 0, none⟩ = false) (hp : P.size ≤ 1048576) (hs : s.size ≤ 1048576) :
    Calls Try.prog 15 #[.iface 28 (.pointer (some ⟨F, 0, none⟩)), .string s] w fun e w' => e = .returned (.iface 28 (.pointer (some ⟨F, 0, none⟩))) ∧ Joined F P s w w' := by
  have hta := assert_fault
  go_enter Try.func15, Try.ntmps15
  go_wp2
  · have he : P.toList.isEmpty = true := by assumption
    go_ret
    exact ⟨rfl, _, rfl, join_empty s P ((empty_iff P).1 he)⟩
  · have hpos : 0 < P.size := by assumption
    have hc : ((P[0].toNat : Int) == 91) = true := by assumption
    go_ret
    exact ⟨rfl, _, rfl, join_bracket s P hpos hc⟩
  · have hpos : 0 < P.size := by assumption
    have hc : ((P[0].toNat : Int) == 91) = false := by assumption
    go_ret
    exact ⟨rfl, _, rfl, join_plain s P hpos hc⟩
  · have he : P.toList.isEmpty = false := by assumption
    have hpos : ¬ 0 < P.size := by assumption
    exact absurd ((empty_iff P).2 (by omega)) (by rw [he]; exact Bool.false_ne_true)

set_option maxHeartbeats 400000 in
theorem zwithin_any (F : Nat) (P s : ByteArray) (w : World) (h0 : w.cell? ⟨F, 0, none⟩ = some (.string P)) (f0 : w.frozen? ⟨F, 0, none⟩ = false) (hp : P.size ≤ 1048576) (hs : s.size ≤ 1048576) :
    Calls Try.prog 11 #[.pointer (some ⟨F, 0, none⟩), .string s] w fun e w' => e = .returned (.tuple #[.pointer (some ⟨F, 0, none⟩), .bool true]) ∧ Joined F P s w w' := by
  have hta := assert_fault
  have hX := within_any F P s w h0 f0 hp hs
  clear h0 f0
  go_enter Try.func11, Try.ntmps11
  go_wp2_with (first | (go_at_call 15; refine hX.mono ?_; rintro e w2 ⟨rfl, hj⟩))
  go_ret2
  exact ⟨rfl, hj⟩

set_option maxHeartbeats 400000 in
theorem newFault_any (p m : ByteArray) (w : World) :
    Calls Try.prog 10 #[.string p, .string m] w fun e w' => e = .returned (.pointer (some ⟨w.heap.size, 0, none⟩)) ∧ w' = w.alloc (.cells #[.string p, .string m] 34) := by
  go_enter Try.func10, Try.ntmps10
  go_wp2
  go_ret
  exact ⟨rfl, rfl⟩

set_option maxHeartbeats 400000 in
theorem faultPath_any (F : Nat) (P : ByteArray) (w : World) (h0 : w.cell? ⟨F, 0, none⟩ = some (.string P)) :
    Calls Try.prog 12 #[.pointer (some ⟨F, 0, none⟩)] w fun e w' => e = .returned (.string P) ∧ w' = w := by
  go_enter Try.func12, Try.ntmps12
  go_wp2
  go_ret
  exact ⟨rfl, rfl⟩

set_option maxHeartbeats 400000 in
theorem faultMsg_any (F : Nat) (m : ByteArray) (w : World) (h1 : w.cell? ⟨F, 1, none⟩ = some (.string m)) :
    Calls Try.prog 13 #[.pointer (some ⟨F, 0, none⟩)] w fun e w' => e = .returned (.string m) ∧ w' = w := by
  go_enter Try.func13, Try.ntmps13
  go_wp2
  go_ret
  exact ⟨rfl, rfl⟩

end Go.Proofs.Qxb6612802a
