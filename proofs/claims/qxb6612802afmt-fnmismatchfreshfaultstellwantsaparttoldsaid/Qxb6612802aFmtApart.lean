/-
  FnMismatchFreshFaultsTellWantsApart, walked.
-/
import Derived.Test.Qxb6612802aFmtMis
import Derived.Test.Qxb6612802aFmtHidden
import Derived.LaidEqlPtr
import Derived.Lib.Builder
namespace Go.Proofs.Qxb6612802aFmt
open Go.RowKit Go.Extern.Stop Go.Stop Go.Extern

theorem hide {p : Prop} (h : p) : Hid p := h

theorem neq_self (w : World) (B : Nat) : (binOp .neq 23 (.pointer (some ⟨B, 0, none⟩)) (.pointer (some ⟨B, 0, none⟩))).run Tryf.prog w = .ok (.bool false) w := by
  obtain ⟨j, hj⟩ := Option.isSome_iff_exists.1 (show (Tryf.prog.info? 41).isSome = true by kernel_rfl)
  exact Lib.run_neq_ptr_same w _ Tryf.underlying23 hj

theorem size41 : ∃ j, Tryf.prog.info? 41 = some j ∧ j.size ≠ 0 := by
  obtain ⟨j, hj⟩ := Option.isSome_iff_exists.1 (show (Tryf.prog.info? 41).isSome = true by kernel_rfl)
  refine ⟨j, hj, ?_⟩
  have h : (Tryf.prog.info? 41).map (fun j => j.size != 0) = some true := by kernel_rfl
  rw [hj] at h
  simpa using h

theorem eql_other (w : World) (A B : Nat) (P P' T T' : ByteArray) (hne : A ≠ B) (hA : Lies A P T w) (hB : Lies B P' T' w) : (binOp .eql 23 (.pointer (some ⟨A, 0, none⟩)) (.pointer (some ⟨B, 0, none⟩))).run Tryf.prog w = .ok (.bool false) w := by
  obtain ⟨j, hj, hz⟩ := size41
  exact run_eql_ptr_other w Tryf.underlying23 hj hz (fun h => hne (congrArg Addr.block h)) hA hB

set_option maxHeartbeats 1000000 in
theorem zbytes6_any (a b c : ByteArray) (d : Bool) (w : World) (ha : a.size ≤ 9223372036854775807) (hb : b.size ≤ 9223372036854775807) (hc : c.size ≤ 9223372036854775807) :
    Calls Tryf.prog 6 #[.string a, .string b, .bool d, .string c] w fun e w' => SomeBool e ∧ w' = w := by
  go_enter Tryf.func6, Tryf.ntmps6
  go_wp2
  all_goals
    go_ret
    exact ⟨⟨_, rfl⟩, rfl⟩

theorem msg_inj (a b d : ByteArray) : ((msg a d).toList == (msg b d).toList) = (a.toList == b.toList) := by
  have h : ∀ x : ByteArray, (msg x d).toList = [119, 97, 110, 116, 32] ++ x.data.toList ++ [44, 32, 103, 111, 116, 32] ++ d.data.toList := fun x => by rw [ByteArray.toList_eq]; simp [msg]
  rw [h, h, ByteArray.toList_eq, ByteArray.toList_eq, Bool.eq_iff_iff]
  simp

/-- The law's answer. -/
def True1 (w : World) (e : Ending) (w' : World) : Prop := e = .returned (.bool true) ∧ Below w.heap.size w w'

/-- The fault in block B of the world w, from the world w0 on, and the world before it. -/
structure Stands (w0 w : World) (B : Nat) (T : ByteArray) : Prop where
  low : w0.heap.size ≤ B
  high : B < w.heap.size
  lies : Lies B ⟨#[]⟩ T w

theorem Stands.later {w0 w w' : World} {B : Nat} {T : ByteArray} (h : Stands w0 w B T) (b : Below w.heap.size w w') : Stands w0 w' B T := ⟨h.low, Nat.lt_of_lt_of_le h.high b.size, h.lies.later h.high b⟩
theorem answers_later {F : Interp} {n : Nat} {w w' : World} (h : F.answers w.tape) (b : Below n w w') : F.answers w'.tape := by rw [b.tape]; exact h
theorem below_step {w w1 w2 : World} (h : Below w.heap.size w w1) (b : Below w1.heap.size w1 w2) : Below w.heap.size w w2 := h.trans (b.mono h.size)

theorem path_new {B : Nat} {P T : ByteArray} {w : World} (h : Lies B P T w) (s : ByteArray) : (w.setCell ⟨B, 0, none⟩ (.string s)).cell? ⟨B, 0, none⟩ = some (.string s) := by
  unfold Lies at h
  simp [World.cell?, World.setCell, Array.getElem?_modify, h]
theorem path_old {A B : Nat} {P T : ByteArray} {w : World} (h : Lies B P T w) (hne : A ≠ B) (s : ByteArray) : (w.setCell ⟨A, 0, none⟩ (.string s)).cell? ⟨B, 0, none⟩ = some (.string P) := by
  unfold Lies at h
  simp [World.cell?, World.setCell, Array.getElem?_modify, h, hne]

theorem both_out {w w' : World} {a d : ByteArray} {e : Ending} (h : Made w a d both e w') : ∃ B : Nat, e = .returned (.tuple #[.pointer (some ⟨B, 0, none⟩), .bool true]) ∧ w.heap.size ≤ B ∧ B < w'.heap.size ∧ Lies B ⟨#[]⟩ (msg a d) w' ∧ Below w.heap.size w w' := h

set_option maxHeartbeats 1000000 in
set_option maxRecDepth 100000 in
theorem apart_any (F : Interp) (a c n : ByteArray) (b : Bool) (w : World) (hF : F.told.answers w.tape) (h0 : a.size ≤ 9223372036854775807) (h1 : c.size ≤ 9223372036854775807) (h2 : n.size ≤ 9223372036854775807) :
    Calls Tryf.prog 3 #[.string a, .string c, .bool b, .string n] w fun e w' => True1 w e w' := by
  have hZ := zbytes6_any a c n b w h0 h1 h2
  have HF := hide hF
  clear hF
  go_enter Tryf.func3, Tryf.ntmps3
  go_wp2_with fail
  refine hZ.mono ?_
  rintro e w0 ⟨⟨z, rfl⟩, rfl⟩
  clear hZ
  cases z with
  | false =>
    go_wp2_with fail
    go_ret
    exact ⟨rfl, Below.refl _ _⟩
  | true =>
    by_cases hall : a.size + c.size + n.size ≤ 1048576
    · have ha : a.size ≤ 1048576 := by omega
      have hc : c.size ≤ 1048576 := by omega
      have hn : n.size ≤ 1048576 := by omega
      have HF0 := HF
      clear HF
      cases b with
      | false =>
        have HB0 : Hid (Below w0.heap.size w0 w0) := Below.refl _ _
        go_wp2_with fail
        refine (zmBool_any F a false _ HF0.out ha).mono ?_
        intro e w1 hq; obtain ⟨B1, rfl, q1, q2, q3, q4⟩ := both_out hq; clear hq
        have HF1 : Hid (F.told.answers w1.tape) := answers_later HF0.out q4
        have HS1 : Hid (Stands w0 w1 B1 (msg a ⟨#[102, 97, 108, 115, 101]⟩)) := ⟨q1, q2, q3⟩
        have HB1 : Hid (Below w0.heap.size w0 w1) := below_step HB0.out q4
        clear q1 q2 q3 q4
        go_wp2_with fail
        refine (zmBool_any F c false _ HF1.out hc).mono ?_
        intro e w2 hq; obtain ⟨B2, rfl, q1, q2, q3, q4⟩ := both_out hq; clear hq
        have HF2 : Hid (F.told.answers w2.tape) := answers_later HF1.out q4
        replace HS1 := hide (HS1.out.later q4)
        have HS2 : Hid (Stands w1 w2 B2 (msg c ⟨#[102, 97, 108, 115, 101]⟩)) := ⟨q1, q2, q3⟩
        have HB2 : Hid (Below w0.heap.size w0 w2) := below_step HB1.out q4
        clear q1 q2 q3 q4
        go_wp2_with fail
        refine (zmNum_any F a ⟨#[102, 97, 108, 115, 101]⟩ _ HF2.out ha (by decide)).mono ?_
        intro e w3 hq; obtain ⟨B3, rfl, q1, q2, q3, q4⟩ := both_out hq; clear hq
        have HF3 : Hid (F.told.answers w3.tape) := answers_later HF2.out q4
        replace HS1 := hide (HS1.out.later q4)
        replace HS2 := hide (HS2.out.later q4)
        have HS3 : Hid (Stands w2 w3 B3 (msg a ⟨#[102, 97, 108, 115, 101]⟩)) := ⟨q1, q2, q3⟩
        have HB3 : Hid (Below w0.heap.size w0 w3) := below_step HB2.out q4
        clear q1 q2 q3 q4
        go_wp2_with fail
        refine (zmNull_any F a _ HF3.out ha).mono ?_
        intro e w4 hq; obtain ⟨B4, rfl, q1, q2, q3, q4⟩ := both_out hq; clear hq
        have HF4 : Hid (F.told.answers w4.tape) := answers_later HF3.out q4
        replace HS1 := hide (HS1.out.later q4)
        replace HS2 := hide (HS2.out.later q4)
        replace HS3 := hide (HS3.out.later q4)
        have HS4 : Hid (Stands w3 w4 B4 (msg a ⟨#[110, 117, 108, 108]⟩)) := ⟨q1, q2, q3⟩
        have HB4 : Hid (Below w0.heap.size w0 w4) := below_step HB3.out q4
        clear q1 q2 q3 q4
        go_wp2_with fail
        refine (zmNum_any F a ⟨#[110, 117, 108, 108]⟩ _ HF4.out ha (by decide)).mono ?_
        intro e w5 hq; obtain ⟨B5, rfl, q1, q2, q3, q4⟩ := both_out hq; clear hq
        have HF5 : Hid (F.told.answers w5.tape) := answers_later HF4.out q4
        replace HS1 := hide (HS1.out.later q4)
        replace HS2 := hide (HS2.out.later q4)
        replace HS3 := hide (HS3.out.later q4)
        replace HS4 := hide (HS4.out.later q4)
        have HS5 : Hid (Stands w4 w5 B5 (msg a ⟨#[110, 117, 108, 108]⟩)) := ⟨q1, q2, q3⟩
        have HB5 : Hid (Below w0.heap.size w0 w5) := below_step HB4.out q4
        clear q1 q2 q3 q4
        go_wp2_with fail
        refine (zmNum_any F a n _ HF5.out ha hn).mono ?_
        intro e w6 hq; obtain ⟨B6, rfl, q1, q2, q3, q4⟩ := both_out hq; clear hq
        have HF6 : Hid (F.told.answers w6.tape) := answers_later HF5.out q4
        replace HS1 := hide (HS1.out.later q4)
        replace HS2 := hide (HS2.out.later q4)
        replace HS3 := hide (HS3.out.later q4)
        replace HS4 := hide (HS4.out.later q4)
        replace HS5 := hide (HS5.out.later q4)
        have HS6 : Hid (Stands w5 w6 B6 (msg a n)) := ⟨q1, q2, q3⟩
        have HB6 : Hid (Below w0.heap.size w0 w6) := below_step HB5.out q4
        clear q1 q2 q3 q4
        go_wp2_with fail
        refine (zmNum_any F a n _ HF6.out ha hn).mono ?_
        intro e w7 hq; obtain ⟨B7, rfl, q1, q2, q3, q4⟩ := both_out hq; clear hq
        have HF7 : Hid (F.told.answers w7.tape) := answers_later HF6.out q4
        replace HS1 := hide (HS1.out.later q4)
        replace HS2 := hide (HS2.out.later q4)
        replace HS3 := hide (HS3.out.later q4)
        replace HS4 := hide (HS4.out.later q4)
        replace HS5 := hide (HS5.out.later q4)
        have HN : Hid (B6 ≠ B7) := Nat.ne_of_lt (Nat.lt_of_lt_of_le HS6.out.high q1)
        replace HS6 := hide (HS6.out.later q4)
        have HS7 : Hid (Stands w6 w7 B7 (msg a n)) := ⟨q1, q2, q3⟩
        have HB7 : Hid (Below w0.heap.size w0 w7) := below_step HB6.out q4
        clear q1 q2 q3 q4
        have hp1 := faultPath_any _ _ _ HS1.out.lies.path
        have hp4 := faultPath_any _ _ _ HS4.out.lies.path
        have hp7 := faultPath_any _ _ _ HS7.out.lies.path
        have hm1 := faultMsg_any _ _ _ HS1.out.lies.text
        have hm2 := faultMsg_any _ _ _ HS2.out.lies.text
        have hm3 := faultMsg_any _ _ _ HS3.out.lies.text
        have hm4 := faultMsg_any _ _ _ HS4.out.lies.text
        have hm5 := faultMsg_any _ _ _ HS5.out.lies.text
        have hm6 := faultMsg_any _ _ _ HS6.out.lies.text
        have hm7 := faultMsg_any _ _ _ HS7.out.lies.text
        have hpt := eql_other w7 B6 B7 _ _ _ _ HN.out HS6.out.lies HS7.out.lies
        have hself := neq_self
        have hinj := msg_inj a c ⟨#[102, 97, 108, 115, 101]⟩
        have hw := zwithin_top B6 c w7 HS6.out.lies.path HS6.out.lies.loose
        have hp6' := faultPath_any B6 c (w7.setCell ⟨B6, 0, none⟩ (.string c)) (path_new HS6.out.lies c)
        have hp7' := faultPath_any B7 ⟨#[]⟩ (w7.setCell ⟨B6, 0, none⟩ (.string c)) (path_old HS7.out.lies HN.out c)
        have hmsg : ∀ x y : ByteArray, ⟨#[119, 97, 110, 116, 32]⟩ ++ x ++ ⟨#[44, 32, 103, 111, 116, 32]⟩ ++ y = msg x y := fun _ _ => rfl
        have HEnd : Hid (Below w0.heap.size w0 (w7.setCell ⟨B6, 0, none⟩ (.string c))) := HB7.out.setCell (Nat.le_trans HB5.out.size HS6.out.low) _
        clear HS1 HS2 HS3 HS4 HS5 HS6 HS7 HN HF0 HF1 HF2 HF3 HF4 HF5 HF6 HF7 HB0 HB1 HB2 HB3 HB4 HB5 HB6 HB7
        go_wp2_with fail
        refine hm1.mono ?_
        rintro e w' ⟨rfl, rfl⟩
        clear hm1
        go_wp2_with fail
        refine hm2.mono ?_
        rintro e w' ⟨rfl, rfl⟩
        clear hm2
        go_wp2_with fail
        refine hm3.mono ?_
        rintro e w' ⟨rfl, rfl⟩
        clear hm3
        go_wp2_with fail
        refine hm4.mono ?_
        rintro e w' ⟨rfl, rfl⟩
        clear hm4
        go_wp2_with fail
        refine hm5.mono ?_
        rintro e w' ⟨rfl, rfl⟩
        clear hm5
        go_wp2_with fail
        refine hp1.mono ?_
        rintro e w' ⟨rfl, rfl⟩
        clear hp1
        go_wp2_with fail
        refine hp4.mono ?_
        rintro e w' ⟨rfl, rfl⟩
        clear hp4
        go_wp2_with fail
        refine hp7.mono ?_
        rintro e w' ⟨rfl, rfl⟩
        clear hp7
        go_wp2_with fail
        refine hm6.mono ?_
        rintro e w' ⟨rfl, rfl⟩
        clear hm6
        go_wp2_with fail
        refine hm7.mono ?_
        rintro e w' ⟨rfl, rfl⟩
        clear hm7
        go_wp2_with fail
        refine hw.mono ?_
        rintro e w' ⟨rfl, rfl⟩
        clear hw
        go_wp2_with fail
        refine hp6'.mono ?_
        rintro e w' ⟨rfl, rfl⟩
        clear hp6'
        go_wp2_with fail
        refine hp7'.mono ?_
        rintro e w' ⟨rfl, rfl⟩
        clear hp7'
        go_wp2_with fail
        go_ret
        exact ⟨rfl, HEnd⟩
      | true =>
        have HB0 : Hid (Below w0.heap.size w0 w0) := Below.refl _ _
        go_wp2_with fail
        refine (zmBool_any F a true _ HF0.out ha).mono ?_
        intro e w1 hq; obtain ⟨B1, rfl, q1, q2, q3, q4⟩ := both_out hq; clear hq
        have HF1 : Hid (F.told.answers w1.tape) := answers_later HF0.out q4
        have HS1 : Hid (Stands w0 w1 B1 (msg a ⟨#[116, 114, 117, 101]⟩)) := ⟨q1, q2, q3⟩
        have HB1 : Hid (Below w0.heap.size w0 w1) := below_step HB0.out q4
        clear q1 q2 q3 q4
        go_wp2_with fail
        refine (zmBool_any F c true _ HF1.out hc).mono ?_
        intro e w2 hq; obtain ⟨B2, rfl, q1, q2, q3, q4⟩ := both_out hq; clear hq
        have HF2 : Hid (F.told.answers w2.tape) := answers_later HF1.out q4
        replace HS1 := hide (HS1.out.later q4)
        have HS2 : Hid (Stands w1 w2 B2 (msg c ⟨#[116, 114, 117, 101]⟩)) := ⟨q1, q2, q3⟩
        have HB2 : Hid (Below w0.heap.size w0 w2) := below_step HB1.out q4
        clear q1 q2 q3 q4
        go_wp2_with fail
        refine (zmNum_any F a ⟨#[116, 114, 117, 101]⟩ _ HF2.out ha (by decide)).mono ?_
        intro e w3 hq; obtain ⟨B3, rfl, q1, q2, q3, q4⟩ := both_out hq; clear hq
        have HF3 : Hid (F.told.answers w3.tape) := answers_later HF2.out q4
        replace HS1 := hide (HS1.out.later q4)
        replace HS2 := hide (HS2.out.later q4)
        have HS3 : Hid (Stands w2 w3 B3 (msg a ⟨#[116, 114, 117, 101]⟩)) := ⟨q1, q2, q3⟩
        have HB3 : Hid (Below w0.heap.size w0 w3) := below_step HB2.out q4
        clear q1 q2 q3 q4
        go_wp2_with fail
        refine (zmNull_any F a _ HF3.out ha).mono ?_
        intro e w4 hq; obtain ⟨B4, rfl, q1, q2, q3, q4⟩ := both_out hq; clear hq
        have HF4 : Hid (F.told.answers w4.tape) := answers_later HF3.out q4
        replace HS1 := hide (HS1.out.later q4)
        replace HS2 := hide (HS2.out.later q4)
        replace HS3 := hide (HS3.out.later q4)
        have HS4 : Hid (Stands w3 w4 B4 (msg a ⟨#[110, 117, 108, 108]⟩)) := ⟨q1, q2, q3⟩
        have HB4 : Hid (Below w0.heap.size w0 w4) := below_step HB3.out q4
        clear q1 q2 q3 q4
        go_wp2_with fail
        refine (zmNum_any F a ⟨#[110, 117, 108, 108]⟩ _ HF4.out ha (by decide)).mono ?_
        intro e w5 hq; obtain ⟨B5, rfl, q1, q2, q3, q4⟩ := both_out hq; clear hq
        have HF5 : Hid (F.told.answers w5.tape) := answers_later HF4.out q4
        replace HS1 := hide (HS1.out.later q4)
        replace HS2 := hide (HS2.out.later q4)
        replace HS3 := hide (HS3.out.later q4)
        replace HS4 := hide (HS4.out.later q4)
        have HS5 : Hid (Stands w4 w5 B5 (msg a ⟨#[110, 117, 108, 108]⟩)) := ⟨q1, q2, q3⟩
        have HB5 : Hid (Below w0.heap.size w0 w5) := below_step HB4.out q4
        clear q1 q2 q3 q4
        go_wp2_with fail
        refine (zmNum_any F a n _ HF5.out ha hn).mono ?_
        intro e w6 hq; obtain ⟨B6, rfl, q1, q2, q3, q4⟩ := both_out hq; clear hq
        have HF6 : Hid (F.told.answers w6.tape) := answers_later HF5.out q4
        replace HS1 := hide (HS1.out.later q4)
        replace HS2 := hide (HS2.out.later q4)
        replace HS3 := hide (HS3.out.later q4)
        replace HS4 := hide (HS4.out.later q4)
        replace HS5 := hide (HS5.out.later q4)
        have HS6 : Hid (Stands w5 w6 B6 (msg a n)) := ⟨q1, q2, q3⟩
        have HB6 : Hid (Below w0.heap.size w0 w6) := below_step HB5.out q4
        clear q1 q2 q3 q4
        go_wp2_with fail
        refine (zmNum_any F a n _ HF6.out ha hn).mono ?_
        intro e w7 hq; obtain ⟨B7, rfl, q1, q2, q3, q4⟩ := both_out hq; clear hq
        have HF7 : Hid (F.told.answers w7.tape) := answers_later HF6.out q4
        replace HS1 := hide (HS1.out.later q4)
        replace HS2 := hide (HS2.out.later q4)
        replace HS3 := hide (HS3.out.later q4)
        replace HS4 := hide (HS4.out.later q4)
        replace HS5 := hide (HS5.out.later q4)
        have HN : Hid (B6 ≠ B7) := Nat.ne_of_lt (Nat.lt_of_lt_of_le HS6.out.high q1)
        replace HS6 := hide (HS6.out.later q4)
        have HS7 : Hid (Stands w6 w7 B7 (msg a n)) := ⟨q1, q2, q3⟩
        have HB7 : Hid (Below w0.heap.size w0 w7) := below_step HB6.out q4
        clear q1 q2 q3 q4
        have hp1 := faultPath_any _ _ _ HS1.out.lies.path
        have hp4 := faultPath_any _ _ _ HS4.out.lies.path
        have hp7 := faultPath_any _ _ _ HS7.out.lies.path
        have hm1 := faultMsg_any _ _ _ HS1.out.lies.text
        have hm2 := faultMsg_any _ _ _ HS2.out.lies.text
        have hm3 := faultMsg_any _ _ _ HS3.out.lies.text
        have hm4 := faultMsg_any _ _ _ HS4.out.lies.text
        have hm5 := faultMsg_any _ _ _ HS5.out.lies.text
        have hm6 := faultMsg_any _ _ _ HS6.out.lies.text
        have hm7 := faultMsg_any _ _ _ HS7.out.lies.text
        have hpt := eql_other w7 B6 B7 _ _ _ _ HN.out HS6.out.lies HS7.out.lies
        have hself := neq_self
        have hinj := msg_inj a c ⟨#[116, 114, 117, 101]⟩
        have hw := zwithin_top B6 c w7 HS6.out.lies.path HS6.out.lies.loose
        have hp6' := faultPath_any B6 c (w7.setCell ⟨B6, 0, none⟩ (.string c)) (path_new HS6.out.lies c)
        have hp7' := faultPath_any B7 ⟨#[]⟩ (w7.setCell ⟨B6, 0, none⟩ (.string c)) (path_old HS7.out.lies HN.out c)
        have hmsg : ∀ x y : ByteArray, ⟨#[119, 97, 110, 116, 32]⟩ ++ x ++ ⟨#[44, 32, 103, 111, 116, 32]⟩ ++ y = msg x y := fun _ _ => rfl
        have HEnd : Hid (Below w0.heap.size w0 (w7.setCell ⟨B6, 0, none⟩ (.string c))) := HB7.out.setCell (Nat.le_trans HB5.out.size HS6.out.low) _
        clear HS1 HS2 HS3 HS4 HS5 HS6 HS7 HN HF0 HF1 HF2 HF3 HF4 HF5 HF6 HF7 HB0 HB1 HB2 HB3 HB4 HB5 HB6 HB7
        go_wp2_with fail
        refine hm1.mono ?_
        rintro e w' ⟨rfl, rfl⟩
        clear hm1
        go_wp2_with fail
        refine hm2.mono ?_
        rintro e w' ⟨rfl, rfl⟩
        clear hm2
        go_wp2_with fail
        refine hm3.mono ?_
        rintro e w' ⟨rfl, rfl⟩
        clear hm3
        go_wp2_with fail
        refine hm4.mono ?_
        rintro e w' ⟨rfl, rfl⟩
        clear hm4
        go_wp2_with fail
        refine hm5.mono ?_
        rintro e w' ⟨rfl, rfl⟩
        clear hm5
        go_wp2_with fail
        refine hp1.mono ?_
        rintro e w' ⟨rfl, rfl⟩
        clear hp1
        go_wp2_with fail
        refine hp4.mono ?_
        rintro e w' ⟨rfl, rfl⟩
        clear hp4
        go_wp2_with fail
        refine hp7.mono ?_
        rintro e w' ⟨rfl, rfl⟩
        clear hp7
        go_wp2_with fail
        refine hm6.mono ?_
        rintro e w' ⟨rfl, rfl⟩
        clear hm6
        go_wp2_with fail
        refine hm7.mono ?_
        rintro e w' ⟨rfl, rfl⟩
        clear hm7
        go_wp2_with fail
        refine hw.mono ?_
        rintro e w' ⟨rfl, rfl⟩
        clear hw
        go_wp2_with fail
        refine hp6'.mono ?_
        rintro e w' ⟨rfl, rfl⟩
        clear hp6'
        go_wp2_with fail
        refine hp7'.mono ?_
        rintro e w' ⟨rfl, rfl⟩
        clear hp7'
        go_wp2_with fail
        go_ret
        exact ⟨rfl, HEnd⟩
    · cases b
      all_goals
        go_wp2_with fail
        all_goals first
          | (exfalso; omega)
          | (go_ret; exact ⟨rfl, Below.refl _ _⟩)

end Go.Proofs.Qxb6612802aFmt
