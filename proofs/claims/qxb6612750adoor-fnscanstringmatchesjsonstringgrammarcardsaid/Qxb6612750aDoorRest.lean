/-
  scanStringRest, walked.
-/
import Derived.Test.Qxb6612750aDoorHex
import Derived.Deep.CutBlock
import Derived.Deep.CutRange
import Derived.Deep.DeepCutAuto
import Derived.Deep.LoopGhost
import Derived.Deep.RegionWith
import Derived.Deep.Light
namespace Go.Proofs.Qxb6612750aDoor
open Go.RowKit

/-- What the walk keeps of the world: the bytes, the table, all that was there. -/
structure Env (b n : Nat) (B : Nat → Nat) (w wr : World) : Prop where
  below : Below w.heap.size w wr
  cells : ∀ i, i < n → wr.cell? ⟨b, i, none⟩ = some (.int .u8 (B i))
  tab : TabAt 1 Lib.deBruijn64tab wr

theorem leZ8 (B : Nat → Nat) : Lib.leZ [((B 0 : Nat) : Int), (B 1 : Nat), (B 2 : Nat), (B 3 : Nat), (B 4 : Nat), (B 5 : Nat), (B 6 : Nat), (B 7 : Nat)] = ((Plain.word B : Nat) : Int) := by
  unfold Plain.word; simp [Lib.leZ]

theorem wf_u8 (x : Nat) (h : x < 256) : (Lit.int .u8 (x : Int)).wf = true := by go_wf

theorem uint64_at (b k n c : Nat) (B : Nat → Nat) (w : World) (hn : 8 ≤ n) (hB : ∀ i, B i < 256) (hcell : ∀ i, i < 8 → w.cell? ⟨b, k + i, none⟩ = some (.int .u8 (B (k + i)))) :
    Calls Tryd.prog 13 #[.agg #[], .slice (some ⟨b, k, none⟩) n c] w fun e w' => e = .returned (.int .u64 ((Plain.word (fun i => B (k + i)) : Nat) : Int)) ∧ Below w.heap.size w w' := by
  refine (Tryd.binary_LE_Uint64_z ⟨b, k, none⟩ n c [((B (k + 0) : Nat) : Int), (B (k + 1) : Nat), (B (k + 2) : Nat), (B (k + 3) : Nat), (B (k + 4) : Nat), (B (k + 5) : Nat), (B (k + 6) : Nat), (B (k + 7) : Nat)] w hn (by simp) ?_ ?_).mono ?_
  · intro i hi
    simp only [List.length_cons, List.length_nil] at hi
    have := hcell i hi
    match i, hi with
    | 0, _ => exact this
    | 1, _ => exact this
    | 2, _ => exact this
    | 3, _ => exact this
    | 4, _ => exact this
    | 5, _ => exact this
    | 6, _ => exact this
    | 7, _ => exact this
  · intro z hz
    simp only [List.mem_cons, List.not_mem_nil, or_false] at hz
    rcases hz with rfl | rfl | rfl | rfl | rfl | rfl | rfl | rfl <;> exact wf_u8 _ (hB _)
  · rintro e w' ⟨rfl, hb⟩
    refine ⟨?_, hb⟩
    rw [← leZ8 (fun i => B (k + i))]; rfl

theorem Env.later {b n : Nat} {B : Nat → Nat} {w wr w1 : World} (E : Env b n B w wr) (hb : Below wr.drew.heap.size wr.drew w1) : Env b n B w w1 where
  below := (E.below.drew).trans (hb.mono (by simpa using E.below.size))
  cells := fun i hi => cell_later hb (by simpa using E.cells i hi)
  tab := fun j hj => cell_later hb (by simpa using E.tab j hj)

theorem tz_any (m : Nat) (h0 : m ≠ 0) (hm : m < 18446744073709551616) (w : World) (hT : TabAt 1 Lib.deBruijn64tab w) :
    ∃ t q : Nat, t < 64 ∧ Hid (m = 2 ^ t * (2 * q + 1)) ∧ Calls Tryd.prog 14 #[.int .u64 (m : Int)] w fun e w' => e = .returned (.int .i64 (t : Nat)) ∧ w' = w := by
  obtain ⟨q, hq, ht⟩ := Lib.ctzFrom_spec 64 m (by omega) (by simpa using hm)
  refine ⟨Lib.ctzFrom 64 m, q, ht, hq, ?_⟩
  have := Tryd.bits_TrailingZeros64 m hm w (fun _ => hT)
  unfold Lib.ctz at this
  rw [if_neg h0] at this
  exact this

theorem skip_all (B : Nat → Nat) (n k : Nat) (hB : ∀ i, B i < 256) (h : k + 8 ≤ n) (z : Plain.st (Plain.word (fun i => B (k + i))) = 0) :
    Plain.S (fun i => ((B i : Nat) : Int)) n k = Plain.S (fun i => ((B i : Nat) : Int)) n (k + 8) :=
  Plain.S_skip _ n k 8 h (fun j hj => by
    obtain ⟨a, c, d⟩ := Plain.st_zero (fun i => B (k + i)) (fun i => hB _) z j hj
    show ((B (k + j) : Nat) : Int) ≠ 34 ∧ ¬ ((B (k + j) : Nat) : Int) < 32 ∧ ((B (k + j) : Nat) : Int) ≠ 92
    omega)

theorem skip_some (B : Nat → Nat) (n k t q : Nat) (hB : ∀ i, B i < 256) (h : k + 8 ≤ n) (ht : t < 64) (z : Plain.st (Plain.word (fun i => B (k + i))) = 2 ^ t * (2 * q + 1)) :
    Plain.S (fun i => ((B i : Nat) : Int)) n k = Plain.S (fun i => ((B i : Nat) : Int)) n (k + t / 8) :=
  Plain.S_skip _ n k (t / 8) (by omega) (fun j hj => by
    obtain ⟨a, c, d⟩ := Plain.st_first (fun i => B (k + i)) (fun i => hB _) t q z ht j hj
    show ((B (k + j) : Nat) : Int) ≠ 34 ∧ ¬ ((B (k + j) : Nat) : Int) < 32 ∧ ((B (k + j) : Nat) : Int) ≠ 92
    omega)

theorem simple_of (e y : Int) (hy : Plain.simple y = true) (h : (e == y) = true) : Plain.simple e = true := by rw [of_beq h]; exact hy
theorem ret3_end {x r : Int} {p : Nat × Bool} {y : Nat} {a : Bool} (h : (y, a) = p) (hx : x = y) : Ending.returned (.tuple #[.int .i64 x, .bool a, .int .i64 r]) = .returned (.tuple #[.int .i64 (p.1 : Nat), .bool p.2, .int .i64 r]) := by subst h; subst hx; rfl
theorem hex4_at (B : Nat → Nat) (j : Nat) : hex4 (fun i => B (j + 2 + i)) = (Plain.isHex ((B (j + 2) : Nat) : Int) && Plain.isHex ((B (j + 3) : Nat) : Int) && Plain.isHex ((B (j + 4) : Nat) : Int) && Plain.isHex ((B (j + 5) : Nat) : Int)) := rfl

set_option maxHeartbeats 4000000 in
set_option maxRecDepth 100000 in
theorem rest_any (b n i : Nat) (B : Nat → Nat) (w : World) (R : Nat × Bool) (hR : Hid (Plain.S (fun i => ((B i : Nat) : Int)) n i = R)) (hB : ∀ i, B i < 256) (hn : n ≤ 1048576) (hi : i ≤ n) (hE : Env b n B w w) :
    Calls Tryd.prog 11 #[.slice (some ⟨b, 0, none⟩) n n, .int .i64 i] w fun e w' => (∃ r : Int, e = .returned (.tuple #[.int .i64 (R.1 : Nat), .bool R.2, .int .i64 r])) ∧ Below w.heap.size w w' := by
  go_enter Tryd.func11, Tryd.ntmps11
  go_wp2
  go_loopg [1] (n + 1) (fun g v wr => ∃ k : Nat, k ≤ n ∧ n - k < g ∧ v = .int .i64 k ∧ Hid (Plain.S (fun i => ((B i : Nat) : Int)) n k = R) ∧ Env b n B w wr)
  case atStart => exact ⟨i, hi, by omega, rfl, hR, hE⟩
  case round =>
    obtain ⟨k, hk, hg, rfl, H, E⟩ := hrel
    go_upto_block 2 with fail
    go_cut [1] (fun v wx => ∃ k' : Nat, k ≤ k' ∧ k' ≤ n ∧ v = .int .i64 k' ∧ Hid (Plain.S (fun i => ((B i : Nat) : Int)) n k' = R) ∧ Env b n B w wx)
    case first =>
      go_wp2_with fail
      go_loopg [1] (n + 1) (fun g v wr => ∃ k' : Nat, k ≤ k' ∧ k' ≤ n ∧ n - k' < g ∧ v = .int .i64 k' ∧ Hid (Plain.S (fun i => ((B i : Nat) : Int)) n k' = R) ∧ Env b n B w wr)
      case atStart => exact ⟨k, Nat.le_refl _, hk, by omega, rfl, H, E⟩
      case round =>
        clear hg hk H E
        obtain ⟨k', hkk, hk', hg, rfl, H, E⟩ := hrel
        by_cases h8 : k' + 8 ≤ n
        · have hU := uint64_at b k' (n - k') (n - k') B wr.drew (by omega) hB (fun i hi => by simpa using E.cells (k' + i) (by omega))
          have hS := fun wx => stops_any (Plain.word (fun i => B (k' + i))) wx (Plain.word_lt _ (fun i => hB _))
          have hnk : ¬ n = k' := by omega
          go_wp2_with fail
          go_cut [7] (fun v wx => ∃ m : Nat, v = .int .u64 ((m : Nat) : Int) ∧ Hid (Plain.st (Plain.word (fun i => B (k' + i))) = m) ∧ Env b n B w wx)
          case first =>
            go_region_with (first | (go_at_call 13; refine hU.mono ?_; rintro e w1 ⟨rfl, hb1⟩) | (go_at_call 12; refine (hS _).mono ?_; rintro e w2 ⟨rfl, rfl⟩))
            all_goals
              go_wp2_with fail
              go_meet
              case rel => exact ⟨_, rfl, rfl, E.later (by assumption)⟩
          case rest =>
            obtain ⟨m, rfl, HM, E'⟩ := hcut
            clear hU hS E
            by_cases h0 : m = 0
            · subst h0
              go_wp2_with fail
              go_roundg (gk - 1)
              case measure => omega
              case rel => exact ⟨k' + 8, by omega, by omega, by omega, by go_num, by show _ = _; rw [← H.out]; exact (skip_all B n k' hB h8 HM.out).symm, E'⟩
            · have hne : (((m : Nat) : Int) != 0) = true := by simp; omega
              obtain ⟨t, q, ht, HQ, hC⟩ := tz_any m h0 (by rw [← HM.out]; exact Plain.st_lt _) wc E'.tab
              go_wp2_with (first | (go_at_call 14; refine hC.mono ?_; rintro e w2 ⟨rfl, rfl⟩))
              go_meet
              case rel => exact ⟨k' + t / 8, by omega, by omega, by go_num, by show _ = _; rw [← H.out]; exact (skip_some B n k' t q hB h8 ht (HM.out.trans HQ.out)).symm, E'⟩
        · go_wp2_with fail
          go_meet
          case rel => exact ⟨k', hkk, hk', rfl, H, E⟩
    case rest =>
      obtain ⟨j, hkj, hj, rfl, H', E'⟩ := hcut
      have hbel := E'.below
      have HB : Hid (Below w.heap.size w wc) := hbel
      have hcell := E'.cells
      clear H E hbel
      by_cases hlt : j < n
      · have hck := hcell j hlt
        by_cases q1 : (((B j : Nat) : Int) == 34) = true
        · go_wp2_with fail
          go_ret3
          exact ⟨⟨_, ret3_end (by rw [← H'.out]; exact (Plain.S_quote _ _ _ hlt (of_beq q1)).symm) (by omega)⟩, HB.out⟩
        · replace q1 : (((B j : Nat) : Int) == 34) = false := by simpa using q1
          by_cases q2 : ((B j : Nat) : Int) < 32
          · go_wp2_with fail
            go_ret3
            exact ⟨⟨_, ret3_end (by rw [← H'.out]; exact (Plain.S_ctl _ _ _ hlt q2).symm) rfl⟩, HB.out⟩
          · by_cases q3 : (((B j : Nat) : Int) == 92) = false
            · go_wp2_with fail
              go_roundg (gk - 1)
              case measure => omega
              case rel => exact ⟨j + 1, by omega, by omega, by go_num, by show _ = _; rw [← H'.out]; exact (Plain.S_plain (fun i => ((B i : Nat) : Int)) n j hlt (by simpa using q1) (by show ¬ ((B j : Nat) : Int) < 32; omega) (by simpa using q3)).symm, E'⟩
            · replace q3 : (((B j : Nat) : Int) == 92) = true := by simpa using q3
              by_cases q4 : j + 1 < n
              · have hck1 := hcell (j + 1) q4
                by_cases q5 : (((B (j + 1) : Nat) : Int) == 117) = true
                · have H5 : Hid (((B (j + 1) : Nat) : Int) = 117) := of_beq q5
                  have f1 := ne_of_117 q5 34 (by decide)
                  have f2 := ne_of_117 q5 92 (by decide)
                  have f3 := ne_of_117 q5 47 (by decide)
                  have f4 := ne_of_117 q5 98 (by decide)
                  have f5 := ne_of_117 q5 102 (by decide)
                  have f6 := ne_of_117 q5 110 (by decide)
                  have f7 := ne_of_117 q5 114 (by decide)
                  have f8 := ne_of_117 q5 116 (by decide)
                  by_cases q6 : j + 6 ≤ n
                  · have hnk : ¬ n = j + 2 := by omega
                    have hX := hexRune_any b (j + 2) (n - (j + 2)) (n - (j + 2)) (fun i => B (j + 2 + i)) wc (fun i => hB _) (by omega) (Nat.le_refl _) (by omega) (fun i hi => hcell (j + 2 + i) (by omega))
                    by_cases q7 : hex4 (fun i => B (j + 2 + i)) = true
                    · go_wp2_with (first | (go_at_call 15; refine hX.mono ?_; rintro e w2 ⟨⟨r, rfl⟩, rfl⟩))
                      go_roundg (gk - 1)
                      case measure => omega
                      case rel => exact ⟨j + 6, by omega, by omega, by go_num, by show _ = _; rw [← H'.out]; exact (Plain.S_hex (fun i => ((B i : Nat) : Int)) n j (of_beq q3) H5.out q6 ((hex4_at B j).symm.trans q7)).symm, E'⟩
                    · replace q7 : hex4 (fun i => B (j + 2 + i)) = false := by simpa using q7
                      go_wp2_with (first | (go_at_call 15; refine hX.mono ?_; rintro e w2 ⟨⟨r, rfl⟩, rfl⟩))
                      go_ret3
                      exact ⟨⟨_, ret3_end (by rw [← H'.out]; exact (Plain.S_nohex (fun i => ((B i : Nat) : Int)) n j (of_beq q3) H5.out q6 ((hex4_at B j).symm.trans q7)).symm) rfl⟩, HB.out⟩
                  · go_wp2_with fail
                    go_ret3
                    exact ⟨⟨_, ret3_end (by rw [← H'.out]; exact (Plain.S_short _ _ _ q4 (of_beq q3) H5.out (by omega)).symm) rfl⟩, HB.out⟩
                · replace q5 : (((B (j + 1) : Nat) : Int) == 117) = false := by simpa using q5
                  go_wp2_with fail
                  all_goals first
                    | (have hs : Plain.simple ((B (j + 1) : Nat) : Int) = true := by first | exact simple_of _ 34 (by decide) (by assumption) | exact simple_of _ 92 (by decide) (by assumption) | exact simple_of _ 47 (by decide) (by assumption) | exact simple_of _ 98 (by decide) (by assumption) | exact simple_of _ 102 (by decide) (by assumption) | exact simple_of _ 110 (by decide) (by assumption) | exact simple_of _ 114 (by decide) (by assumption) | exact simple_of _ 116 (by decide) (by assumption)
                       go_roundg (gk - 1)
                       case measure => omega
                       case rel => exact ⟨j + 2, by omega, by omega, by go_num, by show _ = _; rw [← H'.out]; exact (Plain.S_simple (fun i => ((B i : Nat) : Int)) n j q4 (of_beq q3) hs).symm, E'⟩)
                    | (have hs : Plain.simple ((B (j + 1) : Nat) : Int) = false := by simp only [Plain.simple, Bool.or_eq_false_iff]; refine ⟨⟨⟨⟨⟨⟨⟨?_, ?_⟩, ?_⟩, ?_⟩, ?_⟩, ?_⟩, ?_⟩, ?_⟩ <;> assumption
                       go_ret3
                       exact ⟨⟨_, ret3_end (by rw [← H'.out]; exact (Plain.S_other (fun i => ((B i : Nat) : Int)) n j q4 (of_beq q3) hs (by simpa using q5)).symm) rfl⟩, HB.out⟩)
              · go_wp2_with fail
                go_ret3
                exact ⟨⟨_, ret3_end (by rw [← H'.out]; exact (Plain.S_cut _ _ _ hlt (of_beq q3) (by omega)).symm) rfl⟩, HB.out⟩
      · go_wp2_with fail
        go_ret3
        exact ⟨⟨_, ret3_end (by rw [← H'.out]; exact (Plain.S_end _ _ _ (by omega)).symm) rfl⟩, HB.out⟩

end Go.Proofs.Qxb6612750aDoor
