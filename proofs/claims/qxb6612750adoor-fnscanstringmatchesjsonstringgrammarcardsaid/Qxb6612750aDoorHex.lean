/-
  hexRune and zzModelString, walked.
-/
import Derived.Test.Qxb6612750aDoorSmall
namespace Go.Proofs.Qxb6612750aDoor
open Go.RowKit

def hex4 (c : Nat → Nat) : Bool := Plain.isHex (c 0) && Plain.isHex (c 1) && Plain.isHex (c 2) && Plain.isHex (c 3)

theorem hex4_no (c : Nat → Nat) (k : Nat) (hk : k < 4) (h : (!Plain.isHex (c k)) = true) : false = hex4 c := by
  unfold hex4
  match k, hk with
  | 0, _ => simp_all
  | 1, _ => simp_all
  | 2, _ => simp_all
  | 3, _ => simp_all
theorem hex4_yes (c : Nat → Nat) (h : ∀ j, j < 4 → Plain.isHex (c j) = true) : true = hex4 c := by
  unfold hex4; simp [h]
theorem ret_rune {r : Int} {a b : Bool} (h : a = b) : Ending.returned (.tuple #[.int .i32 r, .bool a]) = .returned (.tuple #[.int .i32 r, .bool b]) := by rw [h]

set_option maxHeartbeats 400000 in
theorem hexRune_any (b o len cap : Nat) (c : Nat → Nat) (w : World) (hc : ∀ i, c i < 256) (h4 : 4 ≤ len) (hl : len ≤ cap) (hm : cap ≤ 9223372036854775807) (hcell : ∀ i, i < 4 → w.cell? ⟨b, o + i, none⟩ = some (.int .u8 (c i))) :
    Calls Tryd.prog 15 #[.slice (some ⟨b, o, none⟩) len cap] w fun e w' => (∃ r : Int, e = .returned (.tuple #[.int .i32 r, .bool (hex4 c)])) ∧ w' = w := by
  go_enter Tryd.func15, Tryd.ntmps15
  go_wp2
  go_loop [4, 15] (fun r i => ∃ k : Nat, k ≤ 4 ∧ i = .int .i64 k ∧ (∃ z : Int, r = .int .i32 z) ∧ ∀ j, j < k → Plain.isHex (c j) = true) (fun _ i => 4 - (intOf i).toNat)
  case atStart => exact ⟨0, by omega, rfl, ⟨_, rfl⟩, fun j hj => absurd hj (Nat.not_lt_zero j)⟩
  case round =>
    obtain ⟨k, hk, rfl, ⟨z, rfl⟩, hall⟩ := hrel
    have HA : Hid (∀ j, j < k → Plain.isHex (c j) = true) := hall
    clear hall
    by_cases hlt : k < 4
    · have hck := hcell k hlt
      go_wp2_with (first | (go_at_call 17; refine (hexDigit_any _ _ (hc _)).mono ?_; rintro e w' ⟨⟨d, rfl⟩, rfl⟩))
      · go_ret2
        exact ⟨⟨_, ret_rune (hex4_no c k hlt ‹_›)⟩, rfl⟩
      · have hy : (!Plain.isHex (c k)) = false := by assumption
        go_round
        case rel => exact ⟨k + 1, by omega, by go_num, ⟨_, rfl⟩, fun j hj => by rcases Nat.lt_succ_iff_lt_or_eq.1 hj with h | h; exact HA.out j h; subst h; simpa using hy⟩
        case measure => simp [intOf]; omega
    · go_wp2
      go_ret2
      exact ⟨⟨_, ret_rune (hex4_yes c (fun j hj => HA.out j (by omega)))⟩, rfl⟩

/-! ### zzModelString -/
theorem ret_end {x : Int} {p : Nat × Bool} {y : Nat} {a : Bool} (h : (y, a) = p) (hx : x = y) : Ending.returned (.tuple #[.int .i64 x, .bool a]) = .returned (.tuple #[.int .i64 (p.1 : Nat), .bool p.2]) := by subst h; subst hx; rfl
theorem of_beq {x y : Int} (h : (x == y) = true) : x = y := by simpa using h
theorem ne_of_117 {x : Int} (h : (x == 117) = true) (y : Int) (hy : y ≠ 117) : (x == y) = false := by
  have : x = 117 := by simpa using h
  simp; omega

set_option maxHeartbeats 4000000 in
set_option maxRecDepth 100000 in
theorem model_any (b n i : Nat) (B : Nat → Nat) (w : World) (R : Nat × Bool) (hR : Hid (Plain.S (fun i => ((B i : Nat) : Int)) n (i + 1) = R)) (hn : n ≤ 1048576) (hi : i < n) (hcell : ∀ i, i < n → w.cell? ⟨b, i, none⟩ = some (.int .u8 (B i))) :
    Calls Tryd.prog 7 #[.slice (some ⟨b, 0, none⟩) n n, .int .i64 i] w fun e w' => e = .returned (.tuple #[.int .i64 (R.1 : Nat), .bool R.2]) ∧ w' = w := by
  go_enter Tryd.func7, Tryd.ntmps7
  go_wp2
  go_loop [7] (fun j => ∃ k : Nat, k ≤ n ∧ j = .int .i64 k ∧ Hid (Plain.S (fun i => ((B i : Nat) : Int)) n k = R)) (fun j => n - (intOf j).toNat)
  case atStart => exact ⟨i + 1, by omega, by go_num, hR⟩
  case round =>
    obtain ⟨k, hk, rfl, H⟩ := hrel
    by_cases hlt : k < n
    · have hck := hcell k hlt
      by_cases q1 : (((B k : Nat) : Int) == 34) = true
      · go_wp2
        go_ret2
        exact ⟨ret_end (by rw [← H.out]; exact (Plain.S_quote _ _ _ hlt (by simpa using q1)).symm) (by omega), rfl⟩
      · replace q1 : (((B k : Nat) : Int) == 34) = false := by simpa using q1
        by_cases q2 : ((B k : Nat) : Int) < 32
        · go_wp2
          go_ret2
          exact ⟨ret_end (by rw [← H.out]; exact (Plain.S_ctl _ _ _ hlt q2).symm) rfl, rfl⟩
        · by_cases q3 : (((B k : Nat) : Int) == 92) = false
          · go_wp2
            go_round
            case rel => exact ⟨k + 1, by omega, by go_num, by show _ = _; rw [← H.out]; exact (Plain.S_plain _ _ _ hlt (by simpa using q1) q2 (by simpa using q3)).symm⟩
            case measure => simp [intOf]; omega
          · replace q3 : (((B k : Nat) : Int) == 92) = true := by simpa using q3
            by_cases q4 : k + 1 < n
            · have hck1 := hcell (k + 1) q4
              by_cases q5 : (((B (k + 1) : Nat) : Int) == 117) = true
              · have H5 : Hid (((B (k + 1) : Nat) : Int) = 117) := of_beq q5
                have f1 := ne_of_117 q5 34 (by decide)
                have f2 := ne_of_117 q5 92 (by decide)
                have f3 := ne_of_117 q5 47 (by decide)
                have f4 := ne_of_117 q5 98 (by decide)
                have f5 := ne_of_117 q5 102 (by decide)
                have f6 := ne_of_117 q5 110 (by decide)
                have f7 := ne_of_117 q5 114 (by decide)
                have f8 := ne_of_117 q5 116 (by decide)
                by_cases q6 : k + 6 ≤ n
                · have hck2 := hcell (k + 2) (by omega)
                  have hck3 := hcell (k + 3) (by omega)
                  have hck4 := hcell (k + 4) (by omega)
                  have hck5 := hcell (k + 5) (by omega)
                  go_wp2_with (first | (go_at_call 10; refine (isHex_any _ _).mono ?_; rintro e w' ⟨rfl, rfl⟩))
                  all_goals first
                    | (have a2 : ¬ Plain.isHex ((B (k + 2) : Nat) : Int) = true := by assumption
                       go_ret2
                       exact ⟨ret_end (by rw [← H.out]; exact (Plain.S_nohex _ _ _ (by simpa using q3) H5.out q6 (by simp [a2])).symm) rfl, rfl⟩)
                    | (have a2 : ¬ Plain.isHex ((B (k + 3) : Nat) : Int) = true := by assumption
                       go_ret2
                       exact ⟨ret_end (by rw [← H.out]; exact (Plain.S_nohex _ _ _ (by simpa using q3) H5.out q6 (by simp [a2])).symm) rfl, rfl⟩)
                    | (have a2 : ¬ Plain.isHex ((B (k + 4) : Nat) : Int) = true := by assumption
                       go_ret2
                       exact ⟨ret_end (by rw [← H.out]; exact (Plain.S_nohex _ _ _ (by simpa using q3) H5.out q6 (by simp [a2])).symm) rfl, rfl⟩)
                    | (have a2 : (!Plain.isHex ((B (k + 5) : Nat) : Int)) = true := by assumption
                       replace a2 : Plain.isHex ((B (k + 5) : Nat) : Int) = false := by simpa using a2
                       go_ret2
                       exact ⟨ret_end (by rw [← H.out]; exact (Plain.S_nohex _ _ _ (by simpa using q3) H5.out q6 (by simp [a2])).symm) rfl, rfl⟩)
                    | (have a2 : Plain.isHex ((B (k + 2) : Nat) : Int) = true := by assumption
                       have a3 : Plain.isHex ((B (k + 3) : Nat) : Int) = true := by assumption
                       have a4 : Plain.isHex ((B (k + 4) : Nat) : Int) = true := by assumption
                       have a5 : (!Plain.isHex ((B (k + 5) : Nat) : Int)) = false := by assumption
                       replace a5 : Plain.isHex ((B (k + 5) : Nat) : Int) = true := by simpa using a5
                       go_round
                       case rel => exact ⟨k + 6, by omega, by go_num, by show _ = _; rw [← H.out]; exact (Plain.S_hex _ _ _ (by simpa using q3) H5.out q6 (by simp [a2, a3, a4, a5])).symm⟩
                       case measure => simp [intOf]; omega)
                · go_wp2
                  go_ret2
                  exact ⟨ret_end (by rw [← H.out]; exact (Plain.S_short _ _ _ q4 (by simpa using q3) H5.out (by omega)).symm) rfl, rfl⟩
              · replace q5 : (((B (k + 1) : Nat) : Int) == 117) = false := by simpa using q5
                go_wp2
                all_goals first
                  | (have hs : Plain.simple ((B (k + 1) : Nat) : Int) = true := by simp only [Plain.simple, Bool.or_eq_true]; first | (simp only [beq_iff_eq]; omega) | assumption
                     go_round
                     case rel => exact ⟨k + 2, by omega, by go_num, by show _ = _; rw [← H.out]; exact (Plain.S_simple _ _ _ q4 (by simpa using q3) hs).symm⟩
                     case measure => simp [intOf]; omega)
                  | (have hs : Plain.simple ((B (k + 1) : Nat) : Int) = false := by simp only [Plain.simple, Bool.or_eq_false_iff]; assumption
                     go_ret2
                     exact ⟨ret_end (by rw [← H.out]; exact (Plain.S_other _ _ _ q4 (by simpa using q3) hs (by simpa using q5)).symm) rfl, rfl⟩)
            · go_wp2
              go_ret2
              exact ⟨ret_end (by rw [← H.out]; exact (Plain.S_cut _ _ _ hlt (by simpa using q3) (by omega)).symm) rfl, rfl⟩
    · go_wp2
      go_ret2
      exact ⟨ret_end (by rw [← H.out]; exact (Plain.S_end _ _ _ (by omega)).symm) rfl, rfl⟩

end Go.Proofs.Qxb6612750aDoor
