/-
  FnFetchingAgreesWithUnderWay, walked.
-/
import Derived.Test.Qxb6612755aCopy
import Derived.Deep.CutBlock
import Derived.Deep.CutRange
import Derived.Deep.DeepCutAuto
import Derived.Deep.LoopGhost
import Derived.Deep.RegionWith
import Derived.Deep.QuietTactic
import Derived.BigQuiet
import Derived.Deep.Light
namespace Go.Proofs.Qxb6612755a
open Go.RowKit

/-- The slice (a, n, c) holds L: as the walks carry it. -/
def Held (w : World) (a : Option Addr) (c : Nat) (L : List Int) : Prop := Row w (.slice a L.length c) L

theorem Held.at {w : World} {a : Option Addr} {c : Nat} {L : List Int} (h : Held w a c L) {k : Nat} (hk : k < L.length) : ∃ b o, a = some ⟨b, o, none⟩ ∧ ∀ i, i < L.length → w.cell? ⟨b, o + i, none⟩ = some (.int .u64 (L.getD i 0)) := by
  rcases h with ⟨rfl, _⟩ | ⟨b, o, c', he, hc⟩
  · simp at hk
  · simp only [Value.slice.injEq, true_and] at he
    exact ⟨b, o, he.1, hc⟩

theorem own_form {w : World} {B n : Nat} {v : Value} {xs : List Value} (h : w.ownsRow B 31 1 v n xs) : ∃ a c, v = .slice a n c := by
  rcases h.2 with ⟨rfl, rfl⟩ | ⟨g, cap, cur, rfl, _⟩
  · exact ⟨_, _, rfl⟩
  · exact ⟨_, _, rfl⟩

theorem held_of_own {w : World} {B : Nat} {a : Option Addr} {c : Nat} {L : List Int} (h : w.ownsRow B 31 1 (.slice a L.length c) L.length (u64s L)) : Held w a c L := by
  by_cases h0 : L = []
  · subst h0; exact .inl ⟨rfl, _, _, rfl⟩
  · rcases h.2 with ⟨he, hn⟩ | ⟨g, cap, cur, he, _⟩
    · exact absurd (List.eq_nil_of_length_eq_zero hn) h0
    · simp only [Value.slice.injEq, true_and] at he
      obtain ⟨rfl, rfl⟩ := he
      refine .inr ⟨g, 0, c, rfl, fun i hi => ?_⟩
      rw [Nat.zero_add, h.cellAt i (by omega)]
      simp [u64s, hi, List.getD_eq_getElem?_getD]

theorem rising_lt {L : List Int} {k : Nat} {x y : Int} (h : Rising L) (h1 : 1 ≤ k) (hk : k < L.length) (hx : L.getD k 0 = x) (hy : L.getD (k - 1) 0 = y) : y < x := by
  have := h (k - 1) (by omega)
  rw [show k - 1 + 1 = k by omega] at this
  omega

theorem own_later {w w1 : World} {B e size : Nat} {v : Value} {n : Nat} {xs : List Value} (h : w.ownsRow B e size v n xs) (hb : Below w.heap.size w w1) : w1.ownsRow B e size v n xs := by
  obtain ⟨hl, h0 | ⟨g, cap, cur, hv, hbg, hg, h1, h2, h3, h4⟩⟩ := h
  · exact ⟨hl, .inl h0⟩
  · exact ⟨hl, .inr ⟨g, cap, cur, hv, hbg, by rw [hb.block g (Array.getElem?_eq_some_iff.1 hg).1]; exact hg, h1, h2, h3, h4⟩⟩

/-- The row in block B, of L's length, holds L's first k numbers. -/
def Saved (L : List Int) (B k : Nat) (w : World) : Prop := ∃ xs, w.ownsRow B 31 1 (.slice (some ⟨B, 0, none⟩) L.length L.length) L.length xs ∧ ∀ j, j < k → xs[j]? = some (.int .u64 (L.getD j 0))

theorem Saved.cell {L : List Int} {B k : Nat} {w : World} (h : Saved L B k w) (hk : k < L.length) : ∃ y, w.cell? ⟨B, k, none⟩ = some y ∧ w.frozen? ⟨B, k, none⟩ = false := by
  obtain ⟨xs, ho, _⟩ := h
  refine ⟨xs[k]'(by rw [ho.1]; omega), ?_, ho.frozenAt k⟩
  rw [ho.cellAt k (by omega)]
  exact List.getElem?_eq_getElem _

theorem Saved.step {L : List Int} {B k : Nat} {w : World} {x : Int} (h : Saved L B k w) (hk : k < L.length) (hx : L.getD k 0 = x) : Saved L B (k + 1) (w.setCell ⟨B, k, none⟩ (.int .u64 x)) := by
  obtain ⟨xs, ho, hj⟩ := h
  refine ⟨_, (ho.stored k _).1, fun j hlt => ?_⟩
  by_cases e : j = k
  · subst e; rw [List.getElem?_set_self (by rw [ho.1]; omega), hx]
  · rw [List.getElem?_set_ne (by omega)]; exact hj j (by omega)

theorem Saved.held {L : List Int} {B : Nat} {w : World} (h : Saved L B L.length w) : Held w (some ⟨B, 0, none⟩) L.length L := by
  obtain ⟨xs, ho, hj⟩ := h
  by_cases h0 : L = []
  · subst h0; exact .inl ⟨rfl, _, _, rfl⟩
  · refine .inr ⟨B, 0, _, rfl, fun i hi => ?_⟩
    rw [Nat.zero_add, ho.cellAt i (by omega)]
    exact hj i hi

theorem Saved.other {L : List Int} {B k g j : Nat} {w : World} {v : Value} (h : Saved L B k w) (hg : g ≠ B) : Saved L B k (w.setCell ⟨g, j, none⟩ v) := by
  obtain ⟨xs, ho, hj⟩ := h
  obtain ⟨hl, ⟨h0, _⟩ | ⟨g', cap, cur, hv, hbg, hh, h1, h2, h3, h4⟩⟩ := ho
  · cases h0
  · simp only [Value.slice.injEq, Option.some.injEq, Addr.mk.injEq, and_true, true_and] at hv
    obtain ⟨rfl, rfl⟩ := hv
    exact ⟨xs, ⟨hl, .inr ⟨B, _, cur, rfl, hbg, by rw [Below.heap_setCell _ _ _ _ (fun e => hg e.symm)]; exact hh, h1, h2, h3, h4⟩⟩, hj⟩

/-- The row of 'got', whose numbers from k on are still L's. -/
def Left (L : List Int) (B : Nat) (a : Option Addr) (c k : Nat) (w : World) : Prop := ∃ xs, w.ownsRow B 31 1 (.slice a L.length c) L.length xs ∧ ∀ j, k ≤ j → j < L.length → xs[j]? = some (.int .u64 (L.getD j 0))

theorem Left.cell {L : List Int} {B : Nat} {a : Option Addr} {c k : Nat} {w w4 : World} {ys : List Value} (h : Left L B a c k w) (h4 : w4.ownsRow B 31 1 (.slice a L.length c) L.length ys) (hk : k < L.length) :
    ∃ g, a = some ⟨g, 0, none⟩ ∧ B ≤ g ∧ g < w4.heap.size ∧ ∃ x, w.cell? ⟨g, k, none⟩ = some (.int .u64 x) ∧ w.frozen? ⟨g, k, none⟩ = false := by
  obtain ⟨xs, ho, hj⟩ := h
  rcases h4.2 with ⟨_, hn⟩ | ⟨g, cap, cur, hv, hbg, hh, _⟩
  · omega
  · simp only [Value.slice.injEq, true_and] at hv
    obtain ⟨rfl, rfl⟩ := hv
    refine ⟨g, rfl, hbg, (Array.getElem?_eq_some_iff.1 hh).1, L.getD k 0, ?_, ho.frozenAt k⟩
    rw [ho.cellAt k (by omega)]
    exact hj k (Nat.le_refl _) hk

theorem Left.step {L : List Int} {B g c k : Nat} {w : World} (h : Left L B (some ⟨g, 0, none⟩) c k w) (v : Value) : Left L B (some ⟨g, 0, none⟩) c (k + 1) (w.setCell ⟨g, k, none⟩ v) := by
  obtain ⟨xs, ho, hj⟩ := h
  refine ⟨_, (ho.stored k v).1, fun j h1 h2 => ?_⟩
  rw [List.getElem?_set_ne (by omega)]; exact hj j (by omega) h2

theorem held_cell {w : World} {B c k : Nat} {L : List Int} (h : Held w (some ⟨B, 0, none⟩) c L) (hk : k < L.length) : w.cell? ⟨B, k, none⟩ = some (.int .u64 (L.getD k 0)) := by
  obtain ⟨b, o, he, hc⟩ := h.at hk
  simp only [Option.some.injEq, Addr.mk.injEq, and_true] at he
  obtain ⟨rfl, rfl⟩ := he
  have := hc k hk
  rwa [Nat.zero_add] at this

theorem drewN_below {B : Nat} {a w : World} (h : Below B a w) (n : Nat) : Below B a (w.drewN n) := below_drewN h n

theorem rising_step {L : List Int} {k : Nat} {x y : Int} (hk : k < L.length) (h0 : 0 < k) (h : Rising (L.take k)) (hx : L.getD k 0 = x) (hy : L.getD (k - 1) 0 = y) (hxy : y < x) : Rising (L.take (k + 1)) := by
  intro i hi
  simp only [List.length_take] at hi
  rw [getD_take L (k + 1) i (by omega), getD_take L (k + 1) (i + 1) (by omega)]
  by_cases hik : i + 1 = k
  · subst hik; simp only [Nat.add_sub_cancel] at hy; omega
  · have := h i (by simp; omega)
    rw [getD_take L k i (by omega), getD_take L k (i + 1) (by omega)] at this
    exact this

set_option maxHeartbeats 2000000 in
set_option maxRecDepth 100000 in
theorem agree_main (a : Option Addr) (cap : Nat) (L : List Int) (pv : Option Addr) (pc : Nat) (M : List Int) (w : World)
    (hL : L.length ≤ 4096) (hM : M.length ≤ 4096) (h0 : Hid (Row w (.slice a L.length cap) L)) (h1 : Hid (Row w (.slice pv M.length pc) M)) :
    Calls Try.prog 6 #[.slice a L.length cap, .slice pv M.length pc] w fun e w' => e = .returned (.bool true) ∧ Below w.heap.size w w' := by
  have hmk := run_make_row' (P := Try.prog) 29 31 (.int .u64 0) 8 Try.underlying29 info31 rfl .i64 .i64 L.length (by omega) (by omega)
  have hne := fun wx => run_neq_slice_nil_any (P := Try.prog) wx 29 31 a L.length cap 0 0 Try.underlying29
  go_enter Try.func6, Try.ntmps6
  go_upto_if 38 with (first | (go_at_call 18; go_in))
  go_cut [0, 5] (fun v _ wx => ∃ a' c', v = .slice a' L.length c' ∧ Hid (Held wx a' c' L) ∧ Hid (Below w.heap.size w wx))
  case first =>
    by_cases ha : a = none
    · subst ha
      go_wp2
      go_meet
      case rel => exact ⟨_, _, rfl, h0, Below.refl _ _⟩
    · obtain ⟨x, rfl⟩ := Option.ne_none_iff_exists'.1 ha
      obtain ⟨w1, hcp, HB1, HR1⟩ := copied (some x) cap L w h0.out ha
      clear ha
      go_wp2
      go_meet
      case rel => exact ⟨_, _, rfl, HR1, HB1⟩
  case rest =>
    obtain ⟨a', c', rfl, HR1, HB1⟩ := hcut
    rename World => w1
    clear hne h0
    go_upto_block 0 with fail
    go_cut [6] (fun _ wx => Hid (Rising L) ∧ Hid (Below w1.heap.size w1 wx))
    case first =>
      go_wp2_with fail
      go_loopg [6] (L.length + 1) (fun g i wr => ∃ k : Nat, k ≤ L.length ∧ L.length - k < g ∧ i = .int .i64 k ∧ Hid (Rising (L.take k)) ∧ Hid (Below w1.heap.size w1 wr))
      case atStart => exact ⟨0, Nat.zero_le _, by omega, rfl, hide (fun i hi => by simp at hi), Below.refl _ _⟩
      case round =>
        obtain ⟨k, hk, hg, rfl, H, HB⟩ := hrel
        by_cases hlt : k < L.length
        · obtain ⟨b, o, rfl, hc⟩ := HR1.out.at hlt
          obtain ⟨x, hx⟩ : ∃ x, Hid (L.getD k 0 = x) := ⟨_, rfl⟩
          have hck : wr.cell? ⟨b, o + k, none⟩ = some (.int .u64 x) := by rw [← hx.out]; exact cell_later HB.out (hc k hlt)
          by_cases hx0 : (x == 0) = true
          · clear hc
            go_wp2_with fail
            go_ret
            exact ⟨rfl, HB1.out.trans (HB.out.mono HB1.out.size)⟩
          · replace hx0 : (x == 0) = false := by simpa using hx0
            by_cases hk0 : k = 0
            · have hd : decide (0 < k) = false := by simp; omega
              have HK0 := hide hk0
              clear hc hk0
              go_wp2_with fail
              go_quiet (fail)
              go_wp2_with fail
              go_roundg (gk - 1)
              case measure => omega
              case rel => exact ⟨k + 1, by omega, by omega, by go_num, hide (fun i hi => by have := HK0.out; simp at hi; omega), drewN_below HB.out nq⟩
            · obtain ⟨y, hy⟩ : ∃ y, Hid (L.getD (k - 1) 0 = y) := ⟨_, rfl⟩
              have hcy : wr.cell? ⟨b, o + (k - 1), none⟩ = some (.int .u64 y) := by rw [← hy.out]; exact cell_later HB.out (hc _ (by omega))
              clear hc
              have hpos : 0 < k := by omega
              have hb1 : (k : Int) < (L.length : Int) := by omega
              have hb2 : (0 : Int) ≤ (k : Int) - 1 := by omega
              have hb3 : (k : Int) - 1 < (L.length : Int) := by omega
              clear hk0
              go_wp2_with fail
              go_quiet (fail)
              go_wp2_with fail
              · go_ret
                exact ⟨rfl, HB1.out.trans ((drewN_below HB.out nq).mono HB1.out.size)⟩
              · have hxy : y < x := by assumption
                go_roundg (gk - 1)
                case measure => omega
                case rel => exact ⟨k + 1, by omega, by omega, by go_num, rising_step hlt hpos H.out hx.out hy.out hxy, drewN_below HB.out nq⟩
        · go_wp2_with fail
          go_meet
          case rel => exact ⟨by have := H.out; rwa [List.take_of_length_le (by omega)] at this, HB⟩
    case rest =>
      obtain ⟨HRise, HB2⟩ := hcut
      rename World => w2
      have HR2 : Hid (Held w2 a' c' L) := HR1.out.later HB2.out
      have HW2 : Hid (Below w.heap.size w w2) := HB1.out.trans (HB2.out.mono HB1.out.size)
      have HP2 : Hid (Held w2 pv pc M) := Row.later h1.out (show Below w.heap.size w w2 from HW2.out)
      clear HR1 HB1 HB2 h1
      go_wp2_with fail
      refine (new_any _ L w2 HR2.out (by omega)).mono ?_
      rintro e w3 ⟨S, u, rfl, hS, hsite, hb3⟩
      have HS3 := hide hsite
      have HB3 := hide hb3
      clear hsite hb3
      go_wp2_with fail
      refine (fetching_any S u L w3 HS3.out (by omega)).mono ?_
      rintro e w4 ⟨⟨gv, rfl, hgot⟩, hb4⟩
      obtain ⟨ga, gc, rfl⟩ := own_form hgot
      have HG4 := hide hgot
      have HB4 := hide hb4
      clear hgot hb4
      have HR4 : Hid (Held w4 a' c' L) := Row.later (Row.later HR2.out HB3.out) HB4.out
      have HP4 : Hid (Held w4 pv pc M) := Row.later (Row.later HP2.out HB3.out) HB4.out
      have HS4 : Hid (Site w4 S u L) := HS3.out.later HB4.out
      have HGH : Hid (Held w4 ga gc L) := held_of_own HG4.out
      have HW3 : Hid (Below w.heap.size w w3) := HW2.out.trans (HB3.out.mono HW2.out.size)
      clear HR2 HP2 HW2
      go_upto_block 2 with fail
      go_cut [9] (fun _ wx => Hid (Below w4.heap.size w4 wx))
      case first =>
        go_wp2_with fail
        go_loopg [9] (L.length + 2) (fun g i wr => ∃ k : Nat, 1 ≤ k ∧ k ≤ L.length + 1 ∧ L.length + 1 - k < g ∧ i = .int .i64 k ∧ Hid (Below w4.heap.size w4 wr))
        case atStart => exact ⟨1, by omega, by omega, by omega, rfl, Below.refl _ _⟩
        case round =>
          obtain ⟨k, hk1, hk, hg, rfl, HB⟩ := hrel
          by_cases hlt : k < L.length
          · obtain ⟨b, o, rfl, hc⟩ := HGH.out.at hlt
            obtain ⟨x, hx⟩ : ∃ x, Hid (L.getD k 0 = x) := ⟨_, rfl⟩
            obtain ⟨y, hy⟩ : ∃ y, Hid (L.getD (k - 1) 0 = y) := ⟨_, rfl⟩
            have hck : wr.cell? ⟨b, o + k, none⟩ = some (.int .u64 x) := by rw [← hx.out]; exact cell_later HB.out (hc k hlt)
            have hcy : wr.cell? ⟨b, o + (k - 1), none⟩ = some (.int .u64 y) := by rw [← hy.out]; exact cell_later HB.out (hc _ (by omega))
            have hxy : y < x := rising_lt HRise.out hk1 hlt hx.out hy.out
            have hb1 : (k : Int) < (L.length : Int) := by omega
            have hb2 : (0 : Int) ≤ (k : Int) - 1 := by omega
            have hb3 : (k : Int) - 1 < (L.length : Int) := by omega
            clear hc
            go_wp2_with fail
            go_quiet (fail)
            go_wp2_with fail
            go_roundg (gk - 1)
            case measure => omega
            case rel => exact ⟨k + 1, by omega, by omega, by omega, by go_num, drewN_below HB.out nq⟩
          · go_wp2_with fail
            go_meet
            case rel => exact HB
      case rest =>
        rename World => w5
        have HB5 : Hid (Below w4.heap.size w4 w5) := hcut
        clear hcut
        go_upto_block 4 with fail
        go_cut [10] (fun _ wx => Hid (Below w4.heap.size w4 wx))
        case first =>
          go_wp2_with fail
          go_loopg [10] (L.length + 1) (fun g i wr => ∃ k : Nat, k ≤ L.length ∧ L.length - k < g ∧ i = .int .i64 k ∧ Hid (Below w4.heap.size w4 wr))
          case atStart => exact ⟨0, by omega, by omega, rfl, HB5⟩
          case round =>
            obtain ⟨k, hk, hg, rfl, HB⟩ := hrel
            by_cases hlt : k < L.length
            · obtain ⟨b, o, rfl, hc⟩ := HR4.out.at hlt
              obtain ⟨x, hx⟩ : ∃ x, Hid (L.getD k 0 = x) := ⟨_, rfl⟩
              have hck : wr.cell? ⟨b, o + k, none⟩ = some (.int .u64 x) := by rw [← hx.out]; exact cell_later HB.out (hc k hlt)
              have hmx : mem L x = true := (mem_yes L x k hlt hx.out).symm
              clear hc
              go_wp2_with fail
              refine (underway_any S u L x wr (HS4.out.later HB.out) (by omega)).mono ?_
              rintro e w6 ⟨rfl, hb6⟩
              have hck6 : w6.cell? ⟨b, o + k, none⟩ = some (.int .u64 x) := cell_later hb6 hck
              have HB6 : Hid (Below w4.heap.size w4 w6) := HB.out.trans (hb6.mono HB.out.size)
              clear hb6
              go_wp2_with fail
              refine (member_any _ L x w6 (Row.later HGH.out HB6.out) (by omega)).mono ?_
              rintro e w7 ⟨rfl, rfl⟩
              go_wp2_with fail
              go_roundg (gk - 1)
              case measure => omega
              case rel => exact ⟨k + 1, by omega, by omega, by go_num, HB6⟩
            · go_wp2_with fail
              go_meet
              case rel => exact HB
        case rest =>
          clear HB5
          rename World => w5
          have HB5 : Hid (Below w4.heap.size w4 w5) := hcut
          clear hcut
          go_upto_block 6 with fail
          go_cut [11] (fun _ wx => Hid (Below w4.heap.size w4 wx))
          case first =>
            go_wp2_with fail
            go_loopg [11] (M.length + 1) (fun g i wr => ∃ k : Nat, k ≤ M.length ∧ M.length - k < g ∧ i = .int .i64 k ∧ Hid (Below w4.heap.size w4 wr))
            case atStart => exact ⟨0, by omega, by omega, rfl, HB5⟩
            case round =>
              obtain ⟨k, hk, hg, rfl, HB⟩ := hrel
              by_cases hlt : k < M.length
              · obtain ⟨b, o, rfl, hc⟩ := HP4.out.at hlt
                obtain ⟨x, hx⟩ : ∃ x, Hid (M.getD k 0 = x) := ⟨_, rfl⟩
                have hck : wr.cell? ⟨b, o + k, none⟩ = some (.int .u64 x) := by rw [← hx.out]; exact cell_later HB.out (hc k hlt)
                have hU := underway_any S u L x wr.drew (HS4.out.later HB.out.drew) (by omega)
                clear hc
                go_wp2_with fail
                go_cut [136] (fun v wx => v = .bool false ∧ Hid (Below w4.heap.size w4 wx))
                case first =>
                  go_region_with (first | (go_at_call 17; refine hU.mono ?_; rintro e w6 ⟨rfl, hb6⟩; have hck6 : w6.cell? ⟨b, o + k, none⟩ = some (.int .u64 x) := cell_later hb6 hck; have HB6 : Hid (Below w4.heap.size w4 w6) := HB.out.drew.trans (hb6.mono HB.out.size); clear hb6) | (go_at_call 16; refine (member_any _ L x _ (Row.later HGH.out (Hid.out (by assumption))) (by omega)).mono ?_; rintro e w7 ⟨rfl, rfl⟩))
                  all_goals
                    go_wp2_with fail
                    go_meet
                    case rel => exact ⟨by simp, by assumption⟩
                case rest =>
                  obtain ⟨rfl, HB7⟩ := hcut
                  clear hU
                  go_wp2_with fail
                  go_roundg (gk - 1)
                  case measure => omega
                  case rel => exact ⟨k + 1, by omega, by omega, by go_num, HB7⟩
              · go_wp2_with fail
                go_meet
                case rel => exact HB
          case rest =>
            clear HB5
            rename World => w5
            have HB5 : Hid (Below w4.heap.size w4 w5) := hcut
            clear hcut
            obtain ⟨wm, hwm⟩ : ∃ wm, Hid (wm = w5.alloc (.cells (madeCells #[.int .u64 0] L.length) 31)) := ⟨_, rfl⟩
            have HBM : Hid (Below w5.heap.size w5 wm) := hide (by rw [hwm.out]; exact (Below.refl _ _).alloc (Nat.le_refl _) _)
            have HOM : Hid (wm.ownsRow w5.heap.size 31 1 (.slice (some ⟨w5.heap.size, 0, none⟩) L.length L.length) L.length (madeCells #[.int .u64 0] L.length).toList) := hide (by rw [hwm.out]; exact World.ownsRow_lit w5 _ _ (Nat.le_refl _) (by unfold maxLen; omega) (by simp [size_madeCells]))
            go_upto_block 8 with fail
            rw [← hwm.out]
            clear hmk hwm
            go_cut [13] (fun _ wx => Hid (Saved L w5.heap.size L.length wx) ∧ Hid (Below w5.heap.size w5 wx))
            case first =>
              go_wp2_with fail
              go_loopg [13] (L.length + 1) (fun g i wr => ∃ k : Nat, k ≤ L.length ∧ L.length - k < g ∧ i = .int .i64 k ∧ Hid (Saved L w5.heap.size k wr) ∧ Hid (Below w5.heap.size w5 wr))
              case atStart => exact ⟨0, by omega, by omega, rfl, ⟨_, HOM.out, fun j hj => absurd hj (Nat.not_lt_zero j)⟩, HBM⟩
              case round =>
                obtain ⟨k, hk, hg, rfl, HV, HB⟩ := hrel
                by_cases hlt : k < L.length
                · obtain ⟨b, o, rfl, hc⟩ := HGH.out.at hlt
                  obtain ⟨x, hx⟩ : ∃ x, Hid (L.getD k 0 = x) := ⟨_, rfl⟩
                  have hck : wr.cell? ⟨b, o + k, none⟩ = some (.int .u64 x) := by rw [← hx.out]; exact cell_later HB.out (cell_later HB5.out (hc k hlt))
                  obtain ⟨y, hcy, hfy⟩ := HV.out.cell hlt
                  clear hc
                  go_wp2_with fail
                  go_roundg (gk - 1)
                  case measure => omega
                  case rel => exact ⟨k + 1, by omega, by omega, by go_num, HV.out.step hlt hx.out, HB.out.setCell (Nat.le_refl _) _⟩
                · obtain rfl : k = L.length := by omega
                  go_wp2_with fail
                  go_meet
                  case rel => exact ⟨HV, HB⟩
            case rest =>
              obtain ⟨HV6, HB6⟩ := hcut
              rename World => w6
              have HX6 : Hid (Below w3.heap.size w3 w6) := (HB4.out.trans (HB5.out.mono HB4.out.size)).trans (HB6.out.mono (Nat.le_trans HB4.out.size HB5.out.size))
              have HO6 : Hid (w6.ownsRow w3.heap.size 31 1 (.slice ga L.length gc) L.length (u64s L)) := own_later HG4.out (HB5.out.trans (HB6.out.mono HB5.out.size))
              clear HOM HBM HB6
              go_upto_block 10 with fail
              go_cut [14] (fun _ wx => Hid (Saved L w5.heap.size L.length wx) ∧ Hid (Below w3.heap.size w3 wx))
              case first =>
                go_wp2_with fail
                go_loopg [14] (L.length + 1) (fun g i wr => ∃ k : Nat, k ≤ L.length ∧ L.length - k < g ∧ i = .int .i64 k ∧ Hid (Left L w3.heap.size ga gc k wr) ∧ Hid (Saved L w5.heap.size L.length wr) ∧ Hid (Below w3.heap.size w3 wr))
                case atStart => exact ⟨0, by omega, by omega, rfl, ⟨_, HO6.out, fun j _ hj => by simp [u64s, hj, List.getD_eq_getElem?_getD]⟩, HV6, HX6⟩
                case round =>
                  obtain ⟨k, hk, hg, rfl, HO, HV, HB⟩ := hrel
                  by_cases hlt : k < L.length
                  · obtain ⟨g, rfl, hge, hgl, x, hcx, hfx⟩ := HO.out.cell HG4.out hlt
                    have hgne : g ≠ w5.heap.size := by have := HB5.out.size; omega
                    go_wp2_with fail
                    go_roundg (gk - 1)
                    case measure => omega
                    case rel => exact ⟨k + 1, by omega, by omega, by go_num, HO.out.step _, HV.out.other hgne, HB.out.setCell hge _⟩
                  · go_wp2_with fail
                    go_meet
                    case rel => exact ⟨HV, HB⟩
              case rest =>
                obtain ⟨HV7, HX7⟩ := hcut
                rename World => w7
                clear HV6 HX6 HO6
                go_wp2_with fail
                refine (fetching_any S u L w7 (HS3.out.later HX7.out) (by omega)).mono ?_
                rintro e w8 ⟨⟨gv, rfl, hgot⟩, hb8⟩
                obtain ⟨gb, gd, rfl⟩ := own_form hgot
                have HA : Hid (Held w8 gb gd L) := held_of_own hgot
                have HV8 : Hid (Held w8 (some ⟨w5.heap.size, 0, none⟩) L.length L) := Row.later HV7.out.held hb8
                have HB8 := hide hb8
                clear hgot hb8
                go_wp2_with fail
                go_loopg [16] (L.length + 1) (fun g i wr => ∃ k : Nat, k ≤ L.length ∧ L.length - k < g ∧ i = .int .i64 k ∧ Hid (Below w8.heap.size w8 wr))
                case atStart => exact ⟨0, by omega, by omega, rfl, Below.refl _ _⟩
                case round =>
                  obtain ⟨k, hk, hg, rfl, HB⟩ := hrel
                  by_cases hlt : k < L.length
                  · obtain ⟨b, o, rfl, hc⟩ := HA.out.at hlt
                    obtain ⟨x, hx⟩ : ∃ x, Hid (L.getD k 0 = x) := ⟨_, rfl⟩
                    have hck : wr.cell? ⟨b, o + k, none⟩ = some (.int .u64 x) := by rw [← hx.out]; exact cell_later HB.out (hc k hlt)
                    have hcy : wr.cell? ⟨w5.heap.size, k, none⟩ = some (.int .u64 x) := by rw [← hx.out]; exact cell_later HB.out (held_cell HV8.out hlt)
                    have hb1 : (k : Int) < (L.length : Int) := by omega
                    clear hc
                    go_wp2_with fail
                    go_quiet (fail)
                    go_wp2_with fail
                    go_roundg (gk - 1)
                    case measure => omega
                    case rel => exact ⟨k + 1, by omega, by omega, by go_num, drewN_below HB.out nq⟩
                  · go_wp2_with fail
                    go_ret
                    exact ⟨rfl, ((HW3.out.trans (HX7.out.mono HW3.out.size)).trans (HB8.out.mono (Nat.le_trans HW3.out.size HX7.out.size))).trans (HB.out.mono (Nat.le_trans HW3.out.size (Nat.le_trans HX7.out.size HB8.out.size)))⟩

end Go.Proofs.Qxb6612755a
