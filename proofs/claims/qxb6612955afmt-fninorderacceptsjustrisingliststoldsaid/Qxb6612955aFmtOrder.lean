/-
  FnInOrderAcceptsJustRisingLists, walked.
-/
import Derived.Test.Qxb6612955aFmtLess
import Derived.Deep.CutBlock
import Derived.Deep.CutRange
import Derived.Deep.DeepCutAuto
import Derived.Deep.LoopGhost
namespace Go.Proofs.Qxb6612955aFmt
open Go.RowKit Go.Extern.Stop Go.Stop Go.Extern

/-- While nothing has failed the best name is the one before. -/
def Best (L : List ByteArray) (k : Nat) (f : Bool) (bs : ByteArray) : Prop := f = false → 0 < k → bs = L.getD (k - 1) ByteArray.empty

theorem best_new {L : List ByteArray} {k : Nat} {f : Bool} {s : ByteArray} (hs : L.getD k ByteArray.empty = s) : Best L (k + 1) f s := fun _ _ => by rw [Nat.add_sub_cancel, hs]
theorem best_failed {L : List ByteArray} {k : Nat} {bs : ByteArray} : Best L k true bs := fun h => by cases h

/-- While nothing has failed, the best name bs is the name p. -/
def Prev (f : Bool) (bs p : ByteArray) : Prop := f = false → bs = p

theorem step_true {f : Bool} {k : Nat} {bs p s : ByteArray} (hb : Prev f bs p) (hr : Op.bytesLess bs.toList s.toList = true) : (f || (decide (0 < k) && le s p)) = f := by
  cases f with
  | true => rfl
  | false =>
    have := hb rfl
    subst this
    have h := less_le bs s
    rw [hr] at h
    rw [← h]
    simp

theorem step_false {f : Bool} {k : Nat} {bs p s : ByteArray} (hk : 0 < k) (hb : Prev f bs p) (hr : Op.bytesLess bs.toList s.toList = false) : (f || (decide (0 < k) && le s p)) = true := by
  cases f with
  | true => rfl
  | false =>
    have := hb rfl
    subst this
    have h := less_le bs s
    rw [hr] at h
    rw [← h]
    simp [hk]

theorem dec_new (w : World) : Dec w w.heap.size false (w.alloc (.cells #[.slice none 0 0, .nilIface] 33)) := by
  refine ⟨Nat.le_refl _, by simp, ?_, ?_, (Below.refl _ _).alloc (Nat.le_refl _) _⟩
  · show (w.alloc _).cell? _ = _
    rw [World.cell?_alloc_at _ _ _ _ rfl]; rfl
  · rw [World.frozen?_alloc_at _ _ _ _ rfl]

theorem answers_later {F : Interp} {n : Nat} {w w' : World} (h : F.answers w.tape) (b : Below n w w') : F.answers w'.tape := by rw [b.tape]; exact h

/-- The law's end. -/
def True1 (w : World) (e : Ending) (w' : World) : Prop := e = .returned (.bool true) ∧ Below w.heap.size w w'

set_option maxHeartbeats 4000000 in
set_option maxRecDepth 100000 in
theorem order_any (F : Interp) (a : Option Addr) (c : Nat) (L : List ByteArray) (m : ByteArray) (w : World) (h : Held w a L) (hF : F.answers w.tape) (hL : L.length ≤ 9223372036854775807) (hm : m.size ≤ 9223372036854775807) :
    Calls Tryf.prog 3 #[.string m, .slice a L.length c] w fun e w' => True1 w e w' := by
  have hX := zzbytes_any a c L m w h hL hm
  have HH := hide h
  have HF := hide hF
  clear h hF
  go_enter Tryf.func3, Tryf.ntmps3
  go_wp2_with fail
  refine hX.mono ?_
  rintro e w' ⟨⟨b, rfl, hsh⟩, rfl⟩
  clear hX
  cases b with
  | false =>
    go_wp2_with fail
    go_ret
    exact ⟨rfl, Below.refl _ _⟩
  | true =>
    rename World => w
    have HSH : Hid (∀ i, i < L.length → (L.getD i ByteArray.empty).size ≤ 1048576) := hsh rfl
    clear hsh
    by_cases hlong : 65536 < L.length
    · go_wp2_with fail
      go_ret
      exact ⟨rfl, Below.refl _ _⟩
    · by_cases hmb : 1048576 < m.size
      · go_wp2_with fail
        go_ret
        exact ⟨rfl, Below.refl _ _⟩
      · replace hlong : L.length ≤ 65536 := by omega
        replace hmb : m.size ≤ 1048576 := by omega
        go_upto_block 0 with fail
        go_cut [5, 6] (fun _ _ wx => wx = w)
        case first =>
          go_wp2_with fail
          go_loopg [5, 6] (L.length + 1) (fun g t i wr => ∃ k T : Nat, k ≤ L.length ∧ L.length - k < g ∧ i = .int .i64 k ∧ t = .int .i64 T ∧ T ≤ 1048576 ∧ wr = w)
          case atStart => exact ⟨0, m.size, by omega, by omega, rfl, rfl, hmb, rfl⟩
          case round =>
            obtain ⟨k, T, hk, hg, rfl, rfl, hT, rfl⟩ := hrel
            by_cases hlt : k < L.length
            · obtain ⟨b, o, rfl, hc⟩ := HH.out.at hlt
              obtain ⟨s, hs⟩ : ∃ s, Hid (L.getD k ByteArray.empty = s) := ⟨_, rfl⟩
              have hck : wr.cell? ⟨b, o + k, none⟩ = some (.string s) := by rw [← hs.out]; exact hc k hlt
              have hs1 : s.size ≤ 1048576 := by rw [← hs.out]; exact HSH.out k hlt
              clear hc
              by_cases hbig : 1048576 < T + (8 + s.size)
              · go_wp2_with fail
                go_ret
                exact ⟨rfl, Below.refl _ _⟩
              · go_wp2_with fail
                go_roundg (gk - 1)
                case measure => omega
                case rel => exact ⟨k + 1, T + (8 + s.size), by omega, by omega, by go_num, by go_num, by omega, rfl⟩
            · go_wp2_with fail
              go_meet
              case rel => rfl
        case rest =>
          subst hcut
          rename World => w
          go_upto_block 2 with (first | (go_at_call 5; refine (newDec_any _).mono ?_; rintro e w1 ⟨rfl, rfl⟩))
          obtain ⟨D, hD0⟩ : ∃ D, Hid (D = w.heap.size) := ⟨_, rfl⟩
          rw [← hD0.out]
          obtain ⟨w1, hw1⟩ : ∃ w1, Hid (w1 = w.alloc (.cells #[.slice none 0 0, .nilIface] 33)) := ⟨_, rfl⟩
          rw [← hw1.out]
          have HD1 : Hid (Dec w D false w1) := by rw [hD0.out, hw1.out]; exact dec_new w
          clear hD0 hw1
          go_wp2_with fail
          go_loopg [8, 9, 10] (L.length + 1) (fun g fv bv i wr => ∃ (k : Nat) (f : Bool) (bs : ByteArray), k ≤ L.length ∧ L.length - k < g ∧ i = .int .i64 k ∧ fv = .bool f ∧ bv = .string bs ∧ bs.size ≤ 1048576 ∧ Hid (Best L k f bs) ∧ Hid (Dec w D f wr))
          case atStart => exact ⟨0, false, ⟨#[]⟩, by omega, by omega, rfl, rfl, rfl, by decide, hide (fun _ h => absurd h (Nat.lt_irrefl 0)), HD1⟩
          case round =>
            obtain ⟨k, f, bs, hk, hg, rfl, rfl, rfl, hbs, HBest, HD⟩ := hrel
            by_cases hlt : k < L.length
            · obtain ⟨b, o, rfl, hc⟩ := HH.out.at hlt
              obtain ⟨s, hs⟩ : ∃ s, Hid (L.getD k ByteArray.empty = s) := ⟨_, rfl⟩
              have hck : wr.cell? ⟨b, o + k, none⟩ = some (.string s) := by rw [← hs.out]; exact cell_later HD.out.below (hc k hlt)
              have hs1 : s.size ≤ 1048576 := by rw [← hs.out]; exact HSH.out k hlt
              by_cases hk0 : k = 0
              · subst hk0
                clear hc
                have hck' : wr.cell? ⟨b, o, none⟩ = some (.string s) := hck
                have hA : Calls Tryf.prog 7 #[.pointer (some ⟨D, 0, none⟩), .string m, .int .i64 0, .string ⟨#[]⟩, .string s] wr fun e w' => e = .returned (.tuple #[]) ∧ Dec w D f w' :=
                  (asked F w f D 0 m ⟨#[]⟩ s wr (answers_later HF.out HD.out.below) HD.out).mono fun e w' ⟨h1, h2⟩ => ⟨h1, by simpa using h2⟩
                clear hck
                cases f with
                | false =>
                  go_wp2_with fail
                  refine hA.mono ?_
                  rintro e w3 ⟨rfl, hd3⟩
                  have HD3 := hide hd3
                  clear hd3 hA
                  have hE := decErr_any D _ w3 HD3.out.err
                  have hnil := neq_nil
                  go_wp2_with fail
                  refine hE.mono ?_
                  rintro e w4 ⟨rfl, rfl⟩
                  clear hE
                  go_wp2_with fail
                  go_roundg (gk - 1)
                  case measure => omega
                  case rel => exact ⟨1, false, s, by omega, by omega, by go_num, rfl, rfl, hs1, hide (best_new (k := 0) hs.out), HD3⟩
                | true =>
                  go_wp2_with fail
                  refine hA.mono ?_
                  rintro e w3 ⟨rfl, hd3⟩
                  have HD3 := hide hd3
                  clear hd3 hA
                  obtain ⟨B, hB⟩ := HD3.out.err
                  have hE := decErr_any D _ w3 hB
                  have hnil := neq_err
                  clear hB
                  go_wp2_with fail
                  refine hE.mono ?_
                  rintro e w4 ⟨rfl, rfl⟩
                  clear hE
                  go_wp2_with fail
                  go_roundg (gk - 1)
                  case measure => omega
                  case rel => exact ⟨1, true, s, by omega, by omega, by go_num, rfl, rfl, hs1, hide (best_new (k := 0) hs.out), HD3⟩
              · have hpos : 0 < k := by omega
                have hne0 : ((k : Int) == 0) = false := by simp; omega
                obtain ⟨p, hp⟩ : ∃ p, Hid (L.getD (k - 1) ByteArray.empty = p) := ⟨_, rfl⟩
                have hcp : wr.cell? ⟨b, o + (k - 1), none⟩ = some (.string p) := by rw [← hp.out]; exact cell_later HD.out.below (hc (k - 1) (by omega))
                have HQ : Hid (Prev f bs p) := hide (fun h => by rw [← hp.out]; exact HBest.out h hpos)
                have HL := hide (byteLess_any bs s wr (by omega) (by omega))
                have hb1 : (k : Int) < (L.length : Int) := by omega
                have hb2 : (0 : Int) ≤ (k : Int) - 1 := by omega
                have hb3 : (k : Int) - 1 < (L.length : Int) := by omega
                clear hc hk0
                cases hr : Op.bytesLess bs.toList s.toList with
                | true =>
                  rw [hr] at HL
                  have HR := hide hr
                  clear hr
                  cases f with
                  | false =>
                    go_wp2_with fail
                    refine HL.out.mono ?_
                    rintro e w2 ⟨rfl, hb2⟩
                    have HB2 := hide hb2
                    clear hb2
                    have hA : Calls Tryf.prog 7 #[.pointer (some ⟨D, 0, none⟩), .string m, .int .i64 k, .string p, .string s] w2 fun e w' => e = .returned (.tuple #[]) ∧ Dec w D false w' :=
                      (asked F w false D k m p s w2 (answers_later (answers_later HF.out HD.out.below) HB2.out) (dec_kept HD.out HB2.out)).mono fun e w' ⟨h1, h2⟩ => ⟨h1, by rw [step_true HQ.out HR.out] at h2; exact h2⟩
                    go_wp2_with fail
                    refine hA.mono ?_
                    rintro e w3 ⟨rfl, hd3⟩
                    have HD3 := hide hd3
                    clear hd3 hA
                    have hE := decErr_any D _ w3 HD3.out.err
                    have hnil := neq_nil
                    go_wp2_with fail
                    refine hE.mono ?_
                    rintro e w4 ⟨rfl, rfl⟩
                    clear hE
                    go_wp2_with fail
                    go_roundg (gk - 1)
                    case measure => omega
                    case rel => exact ⟨k + 1, false, s, by omega, by omega, by go_num, rfl, rfl, hs1, hide (best_new hs.out), HD3⟩
                  | true =>
                    go_wp2_with fail
                    refine HL.out.mono ?_
                    rintro e w2 ⟨rfl, hb2⟩
                    have HB2 := hide hb2
                    clear hb2
                    have hA : Calls Tryf.prog 7 #[.pointer (some ⟨D, 0, none⟩), .string m, .int .i64 k, .string p, .string s] w2 fun e w' => e = .returned (.tuple #[]) ∧ Dec w D true w' :=
                      (asked F w true D k m p s w2 (answers_later (answers_later HF.out HD.out.below) HB2.out) (dec_kept HD.out HB2.out)).mono fun e w' ⟨h1, h2⟩ => ⟨h1, by rw [step_true HQ.out HR.out] at h2; exact h2⟩
                    go_wp2_with fail
                    refine hA.mono ?_
                    rintro e w3 ⟨rfl, hd3⟩
                    have HD3 := hide hd3
                    clear hd3 hA
                    obtain ⟨B, hB⟩ := HD3.out.err
                    have hE := decErr_any D _ w3 hB
                    have hnil := neq_err
                    clear hB
                    go_wp2_with fail
                    refine hE.mono ?_
                    rintro e w4 ⟨rfl, rfl⟩
                    clear hE
                    go_wp2_with fail
                    go_roundg (gk - 1)
                    case measure => omega
                    case rel => exact ⟨k + 1, true, s, by omega, by omega, by go_num, rfl, rfl, hs1, hide (best_new hs.out), HD3⟩
                | false =>
                  rw [hr] at HL
                  have HR := hide hr
                  clear hr
                  cases f with
                  | false =>
                    go_wp2_with fail
                    refine HL.out.mono ?_
                    rintro e w2 ⟨rfl, hb2⟩
                    have HB2 := hide hb2
                    clear hb2
                    have hA : Calls Tryf.prog 7 #[.pointer (some ⟨D, 0, none⟩), .string m, .int .i64 k, .string p, .string s] w2 fun e w' => e = .returned (.tuple #[]) ∧ Dec w D true w' :=
                      (asked F w false D k m p s w2 (answers_later (answers_later HF.out HD.out.below) HB2.out) (dec_kept HD.out HB2.out)).mono fun e w' ⟨h1, h2⟩ => ⟨h1, by rw [step_false hpos HQ.out HR.out] at h2; exact h2⟩
                    go_wp2_with fail
                    refine hA.mono ?_
                    rintro e w3 ⟨rfl, hd3⟩
                    have HD3 := hide hd3
                    clear hd3 hA
                    obtain ⟨B, hB⟩ := HD3.out.err
                    have hE := decErr_any D _ w3 hB
                    have hnil := neq_err
                    clear hB
                    go_wp2_with fail
                    refine hE.mono ?_
                    rintro e w4 ⟨rfl, rfl⟩
                    clear hE
                    go_wp2_with fail
                    go_roundg (gk - 1)
                    case measure => omega
                    case rel => exact ⟨k + 1, true, bs, by omega, by omega, by go_num, rfl, rfl, hbs, hide best_failed, HD3⟩
                  | true =>
                    go_wp2_with fail
                    refine HL.out.mono ?_
                    rintro e w2 ⟨rfl, hb2⟩
                    have HB2 := hide hb2
                    clear hb2
                    have hA : Calls Tryf.prog 7 #[.pointer (some ⟨D, 0, none⟩), .string m, .int .i64 k, .string p, .string s] w2 fun e w' => e = .returned (.tuple #[]) ∧ Dec w D true w' :=
                      (asked F w true D k m p s w2 (answers_later (answers_later HF.out HD.out.below) HB2.out) (dec_kept HD.out HB2.out)).mono fun e w' ⟨h1, h2⟩ => ⟨h1, by rw [step_false hpos HQ.out HR.out] at h2; exact h2⟩
                    go_wp2_with fail
                    refine hA.mono ?_
                    rintro e w3 ⟨rfl, hd3⟩
                    have HD3 := hide hd3
                    clear hd3 hA
                    obtain ⟨B, hB⟩ := HD3.out.err
                    have hE := decErr_any D _ w3 hB
                    have hnil := neq_err
                    clear hB
                    go_wp2_with fail
                    refine hE.mono ?_
                    rintro e w4 ⟨rfl, rfl⟩
                    clear hE
                    go_wp2_with fail
                    go_roundg (gk - 1)
                    case measure => omega
                    case rel => exact ⟨k + 1, true, bs, by omega, by omega, by go_num, rfl, rfl, hbs, hide best_failed, HD3⟩
            · go_wp2_with fail
              go_ret
              exact ⟨rfl, HD.out.below⟩

end Go.Proofs.Qxb6612955aFmt
