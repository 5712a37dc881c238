/-
  describe and its fronts, walked; FnDescribeLiteralsAsWrittenStringsHidden, walked. No way here comes to fmt.
-/
import Derived.Test.Qxb6612802aFmtRows
import Derived.WalkKit
import Derived.WalkSpells
import Derived.WalkLawsBesides
namespace Go.Proofs.Qxb6612802aFmt
open Go.RowKit

theorem as_bool_bool (b : Bool) (w : World) : (Instr.typeAssert (.iface 4 (.bool b)) 45 4 true).run Tryf.prog w = .ok (.tuple #[.bool b, .bool true]) w := by kernel_rfl
theorem as_bool_num (s : ByteArray) (w : World) : (Instr.typeAssert (.iface 39 (.string s)) 45 4 true).run Tryf.prog w = .ok (.tuple #[.bool false, .bool false]) w := by kernel_rfl
theorem as_num_num (s : ByteArray) (w : World) : (Instr.typeAssert (.iface 39 (.string s)) 45 39 true).run Tryf.prog w = .ok (.tuple #[.string s, .bool true]) w := by kernel_rfl
theorem as_bool_str (s : ByteArray) (w : World) : (Instr.typeAssert (.iface 9 (.string s)) 45 4 true).run Tryf.prog w = .ok (.tuple #[.bool false, .bool false]) w := by kernel_rfl
theorem as_num_str (s : ByteArray) (w : World) : (Instr.typeAssert (.iface 9 (.string s)) 45 39 true).run Tryf.prog w = .ok (.tuple #[.string ⟨#[]⟩, .bool false]) w := by kernel_rfl
theorem as_str_str (s : ByteArray) (w : World) : (Instr.typeAssert (.iface 9 (.string s)) 45 9 true).run Tryf.prog w = .ok (.tuple #[.string s, .bool true]) w := by kernel_rfl
theorem nil_bool (b : Bool) (w : World) : (binOp .eql 45 (.iface 4 (.bool b)) .nilIface).run Tryf.prog w = .ok (.bool false) w := by kernel_rfl
theorem nil_num (s : ByteArray) (w : World) : (binOp .eql 45 (.iface 39 (.string s)) .nilIface).run Tryf.prog w = .ok (.bool false) w := by kernel_rfl
theorem nil_str (s : ByteArray) (w : World) : (binOp .eql 45 (.iface 9 (.string s)) .nilIface).run Tryf.prog w = .ok (.bool false) w := by kernel_rfl
theorem nil_nil (w : World) : (binOp .eql 45 .nilIface .nilIface).run Tryf.prog w = .ok (.bool true) w := by kernel_rfl

/-- "true" and "false", "null", "a string". -/
def litOf (b : Bool) : ByteArray := if b then ⟨#[116, 114, 117, 101]⟩ else ⟨#[102, 97, 108, 115, 101]⟩
def nullS : ByteArray := ⟨#[110, 117, 108, 108]⟩
def strS : ByteArray := ⟨#[97, 32, 115, 116, 114, 105, 110, 103]⟩

theorem ret_str {a b : ByteArray} (h : a = b) : Ending.returned (.string a) = .returned (.string b) := by rw [h]

set_option maxHeartbeats 400000 in
theorem formatBool_any (b : Bool) (w : World) : Calls Tryf.prog 24 #[.bool b] w fun e w' => e = .returned (.string (litOf b)) ∧ w' = w := by
  cases b
  · go_enter Tryf.func24, Tryf.ntmps24
    go_wp2
    go_ret
    exact ⟨rfl, rfl⟩
  · go_enter Tryf.func24, Tryf.ntmps24
    go_wp2
    go_ret
    exact ⟨rfl, rfl⟩

set_option maxHeartbeats 400000 in
theorem describe_num (s : ByteArray) (w : World) : Calls Tryf.prog 22 #[.iface 39 (.string s)] w fun e w' => e = .returned (.string s) ∧ w' = w := by
  have h1 := as_bool_num; have h2 := as_num_num; have h3 := nil_num
  go_enter Tryf.func22, Tryf.ntmps22
  go_wp2
  go_ret
  exact ⟨rfl, rfl⟩

set_option maxHeartbeats 400000 in
theorem describe_bool (b : Bool) (w : World) : Calls Tryf.prog 22 #[.iface 4 (.bool b)] w fun e w' => e = .returned (.string (litOf b)) ∧ w' = w := by
  have h1 := as_bool_bool; have h3 := nil_bool
  go_enter Tryf.func22, Tryf.ntmps22
  go_wp2_with (first | (go_at_call 24; refine (formatBool_any _ _).mono ?_; rintro e w' ⟨rfl, rfl⟩))
  go_ret
  exact ⟨rfl, rfl⟩

set_option maxHeartbeats 400000 in
theorem describe_str (s : ByteArray) (w : World) : Calls Tryf.prog 22 #[.iface 9 (.string s)] w fun e w' => e = .returned (.string strS) ∧ w' = w := by
  have h1 := as_bool_str; have h2 := as_num_str; have h4 := as_str_str; have h3 := nil_str
  go_enter Tryf.func22, Tryf.ntmps22
  go_wp2
  go_ret
  exact ⟨rfl, rfl⟩

set_option maxHeartbeats 400000 in
theorem describe_nil (w : World) : Calls Tryf.prog 22 #[.nilIface] w fun e w' => e = .returned (.string nullS) ∧ w' = w := by
  have h3 := nil_nil
  go_enter Tryf.func22, Tryf.ntmps22
  go_wp2
  go_ret
  exact ⟨rfl, rfl⟩

set_option maxHeartbeats 400000 in
theorem znum_any (s : ByteArray) (w : World) : Calls Tryf.prog 14 #[.string s] w fun e w' => e = .returned (.string s) ∧ w' = w := by
  go_enter Tryf.func14, Tryf.ntmps14
  go_wp2_with (first | (go_at_call 22; refine (describe_num _ _).mono ?_; rintro e w' ⟨rfl, rfl⟩))
  go_ret
  exact ⟨rfl, rfl⟩

set_option maxHeartbeats 400000 in
theorem zbool_any (b : Bool) (w : World) : Calls Tryf.prog 15 #[.bool b] w fun e w' => e = .returned (.string (litOf b)) ∧ w' = w := by
  go_enter Tryf.func15, Tryf.ntmps15
  go_wp2_with (first | (go_at_call 22; refine (describe_bool _ _).mono ?_; rintro e w' ⟨rfl, rfl⟩))
  go_ret
  exact ⟨rfl, rfl⟩

set_option maxHeartbeats 400000 in
theorem znull_any (w : World) : Calls Tryf.prog 16 #[] w fun e w' => e = .returned (.string nullS) ∧ w' = w := by
  go_enter Tryf.func16, Tryf.ntmps16
  go_wp2_with (first | (go_at_call 22; refine (describe_nil _).mono ?_; rintro e w' ⟨rfl, rfl⟩))
  go_ret
  exact ⟨rfl, rfl⟩

set_option maxHeartbeats 400000 in
theorem zstr_any (s : ByteArray) (w : World) : Calls Tryf.prog 17 #[.string s] w fun e w' => e = .returned (.string strS) ∧ w' = w := by
  go_enter Tryf.func17, Tryf.ntmps17
  go_wp2_with (first | (go_at_call 22; refine (describe_str _ _).mono ?_; rintro e w' ⟨rfl, rfl⟩))
  go_ret
  exact ⟨rfl, rfl⟩

end Go.Proofs.Qxb6612802aFmt
