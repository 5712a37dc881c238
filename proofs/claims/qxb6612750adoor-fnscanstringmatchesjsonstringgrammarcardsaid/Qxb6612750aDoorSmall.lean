/-
  The small functions on the road of FnScanStringMatchesJSONStringGrammar, walked: below, stops, hexDigit, zzIsHex.
-/
import Derived.Test.Qxb6612750aDoorRows
import Derived.Test.Qxb6612750aDoorPlain
import Derived.Test.Qxb6612750aDoorShelf
import Derived.WalkKit
import Derived.WalkSpells
import Derived.WalkLawsBesides
import Derived.Laws.Bits64b
namespace Go.Proofs.Qxb6612750aDoor
open Go.RowKit

theorem bits_andNot_u64_nat (a b : Nat) (ha : a < 18446744073709551616) (hb : b < 18446744073709551616) :
    bits .andNot .u64 (a : Int) (b : Int) = ((a &&& (18446744073709551615 - b) : Nat) : Int) := by
  have hx : a &&& (18446744073709551615 - b) < 2 ^ 64 := Nat.and_lt_two_pow _ (by omega)
  have h1 : (BitVec.ofInt 64 (a : Int)).toNat = a := by
    rw [BitVec.ofInt_natCast, BitVec.toNat_ofNat]; exact Nat.mod_eq_of_lt (by omega)
  have h2 : (BitVec.ofInt 64 (b : Int)).toNat = b := by
    rw [BitVec.ofInt_natCast, BitVec.toNat_ofNat]; exact Nat.mod_eq_of_lt (by omega)
  show IntKind.u64.wrap ((BitVec.ofInt 64 (a : Int) &&& ~~~BitVec.ofInt 64 (b : Int)).toNat : Int) = _
  rw [BitVec.toNat_and, BitVec.toNat_not, h1, h2, IntKind.wrap_u64]
  simp only [show (2 : Nat) ^ 64 - 1 - b = 18446744073709551615 - b by omega]
  omega

theorem bl_eq (x n : Nat) (hx : x < 18446744073709551616) (hn : n ≤ 128) :
    bits BinOp.and IntKind.u64 (bits BinOp.andNot IntKind.u64 (IntKind.u64.wrap ((x : Int) - 72340172838076673 * (n : Int))) (x : Int)) 9259542123273814144 = ((Plain.bl x n : Nat) : Int) := by
  have e1 : IntKind.u64.wrap ((x : Int) - 72340172838076673 * (n : Int)) = (((x + (18446744073709551616 - 72340172838076673 * n)) % 18446744073709551616 : Nat) : Int) := by
    rw [IntKind.wrap_u64]; omega
  rw [e1, bits_andNot_u64_nat _ _ (by omega) hx]
  exact bits_and_u64_nat _ 9259542123273814144 (Nat.and_lt_two_pow (n := 64) _ (by omega)) (by omega)

theorem ret_u64 {a b : Int} (h : a = b) : Ending.returned (.int .u64 a) = .returned (.int .u64 b) := by rw [h]

set_option maxHeartbeats 400000 in
theorem below_any (x n : Nat) (w : World) (hx : x < 18446744073709551616) (hn : n ≤ 128) :
    Calls Tryd.prog 16 #[.int .u64 x, .int .u64 n] w fun e w' => e = .returned (.int .u64 (Plain.bl x n)) ∧ w' = w := by
  go_enter Tryd.func16, Tryd.ntmps16
  go_wp2
  go_ret
  exact ⟨ret_u64 (bl_eq x n hx hn), rfl⟩

theorem st_eq (x : Nat) :
    bits BinOp.or IntKind.u64 (bits BinOp.or IntKind.u64 ((Plain.bl x 32 : Nat) : Int) ((Plain.bl (x ^^^ 2459565876494606882) 1 : Nat) : Int)) ((Plain.bl (x ^^^ 6655295901103053916) 1 : Nat) : Int) = ((Plain.st x : Nat) : Int) := by
  rw [bits_or_u64_nat _ _ (Plain.bl_lt _ _) (Plain.bl_lt _ _), bits_or_u64_nat _ _ (Nat.or_lt_two_pow (n := 64) (Plain.bl_lt _ _) (Plain.bl_lt _ _)) (Plain.bl_lt _ _)]
  rfl

set_option maxHeartbeats 400000 in
theorem stops_any (x : Nat) (w : World) (hx : x < 18446744073709551616) :
    Calls Tryd.prog 12 #[.int .u64 x] w fun e w' => e = .returned (.int .u64 (Plain.st x)) ∧ w' = w := by
  have h1 : bits .xor .u64 (x : Int) 2459565876494606882 = ((x ^^^ 2459565876494606882 : Nat) : Int) := bits_xor_u64_nat x 2459565876494606882 hx (by omega)
  have h2 : bits .xor .u64 (x : Int) 6655295901103053916 = ((x ^^^ 6655295901103053916 : Nat) : Int) := bits_xor_u64_nat x 6655295901103053916 hx (by omega)
  go_enter Tryd.func12, Tryd.ntmps12
  go_wp2_with fail
  refine (below_any x 32 _ hx (by omega)).mono ?_
  rintro e w' ⟨rfl, rfl⟩
  go_wp2_with fail
  refine (below_any (x ^^^ 2459565876494606882) 1 _ (Nat.xor_lt_two_pow (n := 64) hx (by omega)) (by omega)).mono ?_
  rintro e w' ⟨rfl, rfl⟩
  go_wp2_with fail
  refine (below_any (x ^^^ 6655295901103053916) 1 _ (Nat.xor_lt_two_pow (n := 64) hx (by omega)) (by omega)).mono ?_
  rintro e w' ⟨rfl, rfl⟩
  go_wp2
  go_ret
  exact ⟨ret_u64 (st_eq x), rfl⟩

/-! ### hexDigit, zzIsHex -/
theorem or32 : ∀ c : Nat, c < 256 → bits .or .u8 (c : Int) 32 = ((c ||| 32 : Nat) : Int) := by decide +kernel
theorem or32_hex : ∀ c : Nat, c < 256 → ((97 ≤ c ||| 32 ∧ c ||| 32 ≤ 102) ↔ ((97 ≤ c ∧ c ≤ 102) ∨ (65 ≤ c ∧ c ≤ 70))) := by decide +kernel
theorem isHex_true (c : Int) (h : (48 ≤ c ∧ c ≤ 57) ∨ (97 ≤ c ∧ c ≤ 102) ∨ (65 ≤ c ∧ c ≤ 70)) : true = Plain.isHex c := by unfold Plain.isHex; simp [h]
theorem isHex_false (c : Int) (h : ¬ ((48 ≤ c ∧ c ≤ 57) ∨ (97 ≤ c ∧ c ≤ 102) ∨ (65 ≤ c ∧ c ≤ 70))) : false = Plain.isHex c := by unfold Plain.isHex; rw [decide_eq_false h]
theorem ret_hex {d : Int} {a b : Bool} (h : a = b) : Ending.returned (.tuple #[.int .u8 d, .bool a]) = .returned (.tuple #[.int .u8 d, .bool b]) := by rw [h]
theorem ret_bool {a b : Bool} (h : a = b) : Ending.returned (.bool a) = .returned (.bool b) := by rw [h]

set_option maxHeartbeats 400000 in
theorem hexDigit_any (c : Nat) (w : World) (hc : c < 256) :
    Calls Tryd.prog 17 #[.int .u8 c] w fun e w' => (∃ d : Int, e = .returned (.tuple #[.int .u8 d, .bool (Plain.isHex c)])) ∧ w' = w := by
  have ho := or32 c hc
  have H : Hid ((97 ≤ c ||| 32 ∧ c ||| 32 ≤ 102) ↔ ((97 ≤ c ∧ c ≤ 102) ∨ (65 ≤ c ∧ c ≤ 70))) := or32_hex c hc
  go_enter Tryd.func17, Tryd.ntmps17
  go_wp2
  all_goals
    go_ret2
    have := H.out
    first
      | exact ⟨⟨_, ret_hex (isHex_true _ (by omega))⟩, rfl⟩
      | exact ⟨⟨_, ret_hex (isHex_false _ (by omega))⟩, rfl⟩

set_option maxHeartbeats 400000 in
theorem isHex_any (c : Int) (w : World) :
    Calls Tryd.prog 10 #[.int .u8 c] w fun e w' => e = .returned (.bool (Plain.isHex c)) ∧ w' = w := by
  go_enter Tryd.func10, Tryd.ntmps10
  go_wp2
  all_goals
    go_ret
    exact ⟨ret_bool (by unfold Plain.isHex; rw [Bool.eq_iff_iff]; simp; try omega), rfl⟩

end Go.Proofs.Qxb6612750aDoor
