/-
  FnFetchingAfterGiveUps, walked.
-/
import Derived.Test.Qxb6612755aAgree
import Derived.Test.Qxb6612755aKeep
namespace Go.Proofs.Qxb6612755a
open Go.RowKit

set_option maxHeartbeats 2000000 in
set_option maxRecDepth 100000 in
theorem giveups_main (a : Option Addr) (cap : Nat) (L : List Int) (pv : Option Addr) (pc : Nat) (M : List Int) (w : World)
    (hL : L.length ≤ 4096) (hM : M.length ≤ 4096) (h0 : Hid (Row w (.slice a L.length cap) L)) (h1 : Hid (Row w (.slice pv M.length pc) M)) :
    Calls Try.prog 5 #[.slice a L.length cap, .slice pv M.length pc] w fun e w' => e = .returned (.bool true) ∧ Below w.heap.size w w' := by
  have hmk := run_make_row' (P := Try.prog) 29 31 (.int .u64 0) 8 Try.underlying29 info31 rfl .i64 .i64 L.length (by omega) (by omega)
  have hne := fun wx => run_neq_slice_nil_any (P := Try.prog) wx 29 31 a L.length cap 0 0 Try.underlying29
  go_enter Try.func5, Try.ntmps5
  go_upto_if 35 with (first | (go_at_call 12; go_in))
  go_cut [0, 5] (fun v _ wx => ∃ a' c', v = .slice a' L.length c' ∧ Hid (Held wx a' c' L) ∧ Hid (Below w.heap.size w wx))
  case first =>
    by_cases ha : a = none
    · subst ha
      go_wp2
      go_meet
      case rel => exact ⟨_, _, rfl, h0, Below.refl _ _⟩
    · obtain ⟨x, rfl⟩ := Option.ne_none_iff_exists'.1 ha
      obtain ⟨w1, hcp, HB1, HR1⟩ := copied (some x) cap L w h0.out ha
      clear ha
      go_wp2
      go_meet
      case rel => exact ⟨_, _, rfl, HR1, HB1⟩
  case rest =>
    obtain ⟨a', c', rfl, HR1, HB1⟩ := hcut
    rename World => w1
    clear hne h0
    go_upto_block 0 with fail
    go_cut [6] (fun _ wx => Hid (Rising L) ∧ Hid (Below w1.heap.size w1 wx))
    case first =>
      go_wp2_with fail
      go_loopg [6] (L.length + 1) (fun g i wr => ∃ k : Nat, k ≤ L.length ∧ L.length - k < g ∧ i = .int .i64 k ∧ Hid (Rising (L.take k)) ∧ Hid (Below w1.heap.size w1 wr))
      case atStart => exact ⟨0, Nat.zero_le _, by omega, rfl, hide (fun i hi => by simp at hi), Below.refl _ _⟩
      case round =>
        obtain ⟨k, hk, hg, rfl, H, HB⟩ := hrel
        by_cases hlt : k < L.length
        · obtain ⟨b, o, rfl, hc⟩ := HR1.out.at hlt
          obtain ⟨x, hx⟩ : ∃ x, Hid (L.getD k 0 = x) := ⟨_, rfl⟩
          have hck : wr.cell? ⟨b, o + k, none⟩ = some (.int .u64 x) := by rw [← hx.out]; exact cell_later HB.out (hc k hlt)
          by_cases hx0 : (x == 0) = true
          · clear hc
            go_wp2_with fail
            go_ret
            exact ⟨rfl, HB1.out.trans (HB.out.mono HB1.out.size)⟩
          · replace hx0 : (x == 0) = false := by simpa using hx0
            by_cases hk0 : k = 0
            · have hd : decide (0 < k) = false := by simp; omega
              have HK0 := hide hk0
              clear hc hk0
              go_wp2_with fail
              go_quiet (fail)
              go_wp2_with fail
              go_roundg (gk - 1)
              case measure => omega
              case rel => exact ⟨k + 1, by omega, by omega, by go_num, hide (fun i hi => by have := HK0.out; simp at hi; omega), drewN_below HB.out nq⟩
            · obtain ⟨y, hy⟩ : ∃ y, Hid (L.getD (k - 1) 0 = y) := ⟨_, rfl⟩
              have hcy : wr.cell? ⟨b, o + (k - 1), none⟩ = some (.int .u64 y) := by rw [← hy.out]; exact cell_later HB.out (hc _ (by omega))
              clear hc
              have hpos : 0 < k := by omega
              have hb1 : (k : Int) < (L.length : Int) := by omega
              have hb2 : (0 : Int) ≤ (k : Int) - 1 := by omega
              have hb3 : (k : Int) - 1 < (L.length : Int) := by omega
              clear hk0
              go_wp2_with fail
              go_quiet (fail)
              go_wp2_with fail
              · go_ret
                exact ⟨rfl, HB1.out.trans ((drewN_below HB.out nq).mono HB1.out.size)⟩
              · have hxy : y < x := by assumption
                go_roundg (gk - 1)
                case measure => omega
                case rel => exact ⟨k + 1, by omega, by omega, by go_num, rising_step hlt hpos H.out hx.out hy.out hxy, drewN_below HB.out nq⟩
        · go_wp2_with fail
          go_meet
          case rel => exact ⟨by have := H.out; rwa [List.take_of_length_le (by omega)] at this, HB⟩
    case rest =>
      obtain ⟨HRise, HB2⟩ := hcut
      rename World => w2
      have HR2 : Hid (Held w2 a' c' L) := HR1.out.later HB2.out
      have HW2 : Hid (Below w.heap.size w w2) := HB1.out.trans (HB2.out.mono HB1.out.size)
      have HP2 : Hid (Held w2 pv pc M) := Row.later h1.out (show Below w.heap.size w w2 from HW2.out)
      clear HR1 HB1 HB2 h1
      clear hmk
      go_wp2_with fail
      refine (new_any _ L w2 HR2.out (by omega)).mono ?_
      rintro e w3 ⟨S, u, rfl, hS, hsite, hb3⟩
      have HS3 := hide hsite
      have HB3 := hide hb3
      clear hsite hb3
      go_upto_block 2 with fail
      go_cut [8] (fun _ wx => ∃ u', Hid (Site wx S u' (keep L M)) ∧ Hid (Below w2.heap.size w2 wx))
      case first =>
        go_wp2_with fail
        go_loopg [8] (M.length + 1) (fun g i wr => ∃ k : Nat, k ≤ M.length ∧ M.length - k < g ∧ i = .int .i64 k ∧ ∃ u', Hid (Site wr S u' (keep L (M.take k))) ∧ Hid (Below w2.heap.size w2 wr))
        case atStart => exact ⟨0, by omega, by omega, rfl, u, hide (by rw [List.take_zero, keep_nil]; exact HS3.out), HB3⟩
        case round =>
          obtain ⟨k, hk, hg, rfl, u', HS, HB⟩ := hrel
          by_cases hlt : k < M.length
          · obtain ⟨b, o, rfl, hc⟩ := HP2.out.at hlt
            obtain ⟨x, hx⟩ : ∃ x, Hid (M.getD k 0 = x) := ⟨_, rfl⟩
            have hck : wr.cell? ⟨b, o + k, none⟩ = some (.int .u64 x) := by rw [← hx.out]; exact cell_later HB.out (hc k hlt)
            have hkl := keep_le L (M.take k)
            have hG := giveUp_any S u' (keep L (M.take k)) x wr HS.out (by omega)
            clear hc hkl
            go_wp2_with fail
            refine hG.mono ?_
            rintro e w4 ⟨rfl, rs', hgone, ⟨uv, hs4⟩, hb4⟩
            have HS4 : Hid (Site w4 S uv (keep L (M.take (k + 1)))) := hide (by
              rw [List.take_succ_eq_append_getElem hlt, ← getD_eq hlt, hx.out, ← gone_keep (rising_apart HRise.out) hgone]; exact hs4)
            have HB4 : Hid (Below w2.heap.size w2 w4) := HB.out.trans (hb4.mono hS)
            clear hG hgone hs4 hb4
            go_wp2_with fail
            go_roundg (gk - 1)
            case measure => omega
            case rel => exact ⟨k + 1, by omega, by omega, by go_num, uv, HS4, HB4⟩
          · go_wp2_with fail
            go_meet
            case rel => exact ⟨u', hide (by have := HS.out; rwa [List.take_of_length_le (by omega)] at this), HB⟩
      case rest =>
        obtain ⟨uv, HS4, HB4⟩ := hcut
        rename World => w4
        have hKl := keep_le L M
        go_wp2_with fail
        refine (fetching_any S uv (keep L M) w4 HS4.out (by omega)).mono ?_
        rintro e w5 ⟨⟨gv, rfl, hgot⟩, hb5⟩
        obtain ⟨ga, gc, rfl⟩ := own_form hgot
        have HG5 : Hid (Held w5 ga gc (keep L M)) := held_of_own hgot
        have HB5 := hide hb5
        have HR5 : Hid (Held w5 a' c' L) := Row.later (Row.later HR2.out HB4.out) hb5
        have HP5 : Hid (Held w5 pv pc M) := Row.later (Row.later HP2.out HB4.out) hb5
        have HS5 : Hid (Site w5 S uv (keep L M)) := HS4.out.later hb5
        have HW5 : Hid (Below w.heap.size w w5) := (HW2.out.trans (HB4.out.mono HW2.out.size)).trans (hb5.mono (Nat.le_trans HW2.out.size HB4.out.size))
        clear hgot hb5 HR2 HP2 HW2 HS3 HB3 HB4 HS4
        go_upto_block 4 with fail
        go_cut [10, 11] (fun j _ wx => j = .int .i64 (keep L M).length ∧ Hid (Below w5.heap.size w5 wx))
        case first =>
          go_wp2_with fail
          go_loopg [10, 11] (L.length + 1) (fun g j i wr => ∃ k n : Nat, k ≤ L.length ∧ L.length - k < g ∧ i = .int .i64 k ∧ j = .int .i64 n ∧ n ≤ k ∧ Hid (n = (keep (L.take k) M).length) ∧ Hid (Below w5.heap.size w5 wr))
          case atStart => exact ⟨0, 0, by omega, by omega, rfl, rfl, by omega, hide (by simp [keep]), Below.refl _ _⟩
          case round =>
            obtain ⟨k, n, hk, hg, rfl, rfl, hnk, HN, HB⟩ := hrel
            by_cases hlt : k < L.length
            · obtain ⟨b, o, rfl, hc⟩ := HR5.out.at hlt
              obtain ⟨x, hx⟩ : ∃ x, Hid (L.getD k 0 = x) := ⟨_, rfl⟩
              have hck : wr.cell? ⟨b, o + k, none⟩ = some (.int .u64 x) := by rw [← hx.out]; exact cell_later HB.out (hc k hlt)
              have hMem := member_any _ M x wr (Row.later HP5.out HB.out) (by omega)
              clear hc
              by_cases hmx : mem M x = true
              · go_wp2_with (first | (go_at_call 16; refine hMem.mono ?_; rintro e w7 ⟨rfl, rfl⟩))
                go_roundg (gk - 1)
                case measure => omega
                case rel => exact ⟨k + 1, n, by omega, by omega, by go_num, rfl, by omega, hide (by rw [keep_take_gone hlt hx.out hmx]; exact HN.out), HB⟩
              · replace hmx : mem M x = false := by simpa using hmx
                obtain ⟨hlt2, hat⟩ := keep_at (M := M) hlt hx.out hmx
                rw [← HN.out] at hlt2 hat
                obtain ⟨gb, go, rfl, hc2⟩ := HG5.out.at hlt2
                have hcn : wr.cell? ⟨gb, go + n, none⟩ = some (.int .u64 x) := by rw [← hat]; exact cell_later HB.out (hc2 n hlt2)
                have hU := underway_any S uv (keep L M) x wr (HS5.out.later HB.out) (by omega)
                have hku : mem (keep L M) x = true := mem_keep_yes hlt hx.out hmx
                clear hat hc2
                go_wp2_with (first | (go_at_call 16; refine hMem.mono ?_; rintro e w7 ⟨rfl, rfl⟩) | (go_at_call 17; refine hU.mono ?_; rintro e w8 ⟨rfl, hb8⟩))
                go_roundg (gk - 1)
                case measure => omega
                case rel => exact ⟨k + 1, n + 1, by omega, by omega, by go_num, by go_num, by omega, hide (by rw [keep_take_kept hlt hx.out hmx, HN.out]), HB.out.trans (hb8.mono HB.out.size)⟩
            · obtain rfl : k = L.length := by omega
              have HN2 : Hid ((keep L M).length = n) := hide (by have := HN.out; rw [List.take_of_length_le (Nat.le_refl _)] at this; exact this.symm)
              go_wp2_with fail
              go_meet
              case rel => exact ⟨by rw [HN2.out], HB⟩
        case rest =>
          obtain ⟨rfl, HB6⟩ := hcut
          rename World => w6
          go_wp2_with fail
          go_loopg [13] (M.length + 1) (fun g i wr => ∃ k : Nat, k ≤ M.length ∧ M.length - k < g ∧ i = .int .i64 k ∧ Hid (Below w5.heap.size w5 wr))
          case atStart => exact ⟨0, by omega, by omega, rfl, HB6⟩
          case round =>
            obtain ⟨k, hk, hg, rfl, HB⟩ := hrel
            by_cases hlt : k < M.length
            · obtain ⟨b, o, rfl, hc⟩ := HP5.out.at hlt
              obtain ⟨x, hx⟩ : ∃ x, Hid (M.getD k 0 = x) := ⟨_, rfl⟩
              have hck : wr.cell? ⟨b, o + k, none⟩ = some (.int .u64 x) := by rw [← hx.out]; exact cell_later HB.out (hc k hlt)
              have hU := underway_any S uv (keep L M) x wr (HS5.out.later HB.out) (by omega)
              have hku : mem (keep L M) x = false := mem_keep_no hlt hx.out
              clear hc
              go_wp2_with (first | (go_at_call 17; refine hU.mono ?_; rintro e w8 ⟨rfl, hb8⟩))
              go_roundg (gk - 1)
              case measure => omega
              case rel => exact ⟨k + 1, by omega, by omega, by go_num, HB.out.trans (hb8.mono HB.out.size)⟩
            · go_wp2_with fail
              go_ret
              exact ⟨rfl, HW5.out.trans (HB.out.mono HW5.out.size)⟩

end Go.Proofs.Qxb6612755a
