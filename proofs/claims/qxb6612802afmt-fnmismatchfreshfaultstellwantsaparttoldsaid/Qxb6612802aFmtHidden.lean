/-
  FnDescribeLiteralsAsWrittenStringsHidden, walked.
-/
import Derived.Test.Qxb6612802aFmtDescribe
namespace Go.Proofs.Qxb6612802aFmt
open Go.RowKit

def SomeBool (e : Ending) : Prop := ∃ b, e = .returned (.bool b)

set_option maxHeartbeats 1000000 in
theorem zbytes4_any (a b c : ByteArray) (d : Bool) (w : World) (ha : a.size ≤ 9223372036854775807) (hb : b.size ≤ 9223372036854775807) (hc : c.size ≤ 9223372036854775807) :
    Calls Tryf.prog 13 #[.string a, .string b, .string c, .bool d] w fun e w' => SomeBool e ∧ w' = w := by
  go_enter Tryf.func13, Tryf.ntmps13
  go_wp2
  all_goals
    go_ret
    exact ⟨⟨_, rfl⟩, rfl⟩

set_option maxHeartbeats 1000000 in
set_option maxRecDepth 100000 in
theorem hidden_any (num s1 s2 : ByteArray) (b : Bool) (w : World) (h0 : num.size ≤ 9223372036854775807) (h1 : s1.size ≤ 9223372036854775807) (h2 : s2.size ≤ 9223372036854775807) :
    Calls Tryf.prog 4 #[.string num, .string s1, .string s2, .bool b] w fun e w' => e = .returned (.bool true) ∧ w' = w := by
  have hZ := zbytes4_any num s1 s2 b w h0 h1 h2
  go_enter Tryf.func4, Tryf.ntmps4
  go_wp2_with fail
  refine hZ.mono ?_
  rintro e w' ⟨⟨z, rfl⟩, rfl⟩
  clear hZ
  cases z with
  | false =>
    go_wp2_with fail
    go_ret
    exact ⟨rfl, rfl⟩
  | true =>
    have e1 : litOf false = ⟨#[102, 97, 108, 115, 101]⟩ := rfl
    have e2 : nullS = ⟨#[110, 117, 108, 108]⟩ := rfl
    have e3 : strS = ⟨#[97, 32, 115, 116, 114, 105, 110, 103]⟩ := rfl
    have e4 : litOf true = ⟨#[116, 114, 117, 101]⟩ := rfl
    cases b with
    | false =>
      go_wp2_with (first | (go_at_call 14; refine (znum_any _ _).mono ?_; rintro e w' ⟨rfl, rfl⟩) | (go_at_call 15; refine (zbool_any _ _).mono ?_; rintro e w' ⟨rfl, rfl⟩) | (go_at_call 16; refine (znull_any _).mono ?_; rintro e w' ⟨rfl, rfl⟩) | (go_at_call 17; refine (zstr_any _ _).mono ?_; rintro e w' ⟨rfl, rfl⟩))
      all_goals
        go_ret
        exact ⟨rfl, rfl⟩
    | true =>
      go_wp2_with (first | (go_at_call 14; refine (znum_any _ _).mono ?_; rintro e w' ⟨rfl, rfl⟩) | (go_at_call 15; refine (zbool_any _ _).mono ?_; rintro e w' ⟨rfl, rfl⟩) | (go_at_call 16; refine (znull_any _).mono ?_; rintro e w' ⟨rfl, rfl⟩) | (go_at_call 17; refine (zstr_any _ _).mono ?_; rintro e w' ⟨rfl, rfl⟩))
      all_goals
        go_ret
        exact ⟨rfl, rfl⟩

end Go.Proofs.Qxb6612802aFmt
