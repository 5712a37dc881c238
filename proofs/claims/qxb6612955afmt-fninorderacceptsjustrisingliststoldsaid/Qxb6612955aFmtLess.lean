/-
  byteLess and zzBytes, walked; the order of the bytes.
-/
import Derived.Test.Qxb6612955aFmtBase
import Derived.Deep.RegionWith
import Derived.Deep.QuietTactic
import Derived.BigQuiet
import Derived.LoopTactic
import Derived.WalkSmall
import Derived.Deep.Light
namespace Go.Proofs.Qxb6612955aFmt
open Go.RowKit

/-! ### The plain law -/
theorem less_refl : ∀ l : List UInt8, Op.bytesLess l l = false
  | [] => rfl
  | a :: l => by simp [Op.bytesLess, less_refl l]

theorem less_total : ∀ a b : List UInt8, (!Op.bytesLess a b) = (Op.bytesLess b a || b == a)
  | [], [] => by simp [Op.bytesLess]
  | [], _ :: _ => by simp [Op.bytesLess]
  | _ :: _, [] => by simp [Op.bytesLess]
  | x :: a, y :: b => by
    have ih := less_total a b
    by_cases h : x = y
    · subst h
      simp [Op.bytesLess]
      simpa using ih
    · have h' : ¬ y = x := fun e => h e.symm
      by_cases hl : x < y
      · have : ¬ y < x := by rw [UInt8.lt_iff_toNat_lt] at *; omega
        simp [Op.bytesLess, h', hl, this]
      · have : y < x := by
          rw [UInt8.lt_iff_toNat_lt] at *
          have : x.toNat ≠ y.toNat := fun e => h (UInt8.toNat_inj.1 e)
          omega
        simp [Op.bytesLess, h, hl, this]

/-- 'not a < b' is 'b <= a'. -/
theorem less_le (a b : ByteArray) : (!Op.bytesLess a.toList b.toList) = le b a := less_total _ _

/-- a and b are the same in their first k bytes. -/
def Same (a b : ByteArray) (k : Nat) : Prop := Op.bytesLess a.toList b.toList = Op.bytesLess (a.data.toList.drop k) (b.data.toList.drop k)

theorem same_zero (a b : ByteArray) : Same a b 0 := by
  unfold Same
  rw [ByteArray.toList_eq, ByteArray.toList_eq, List.drop_zero, List.drop_zero]

theorem drop_at (a : ByteArray) (k : Nat) (h : k < a.size) : a.data.toList.drop k = a[k] :: a.data.toList.drop (k + 1) := by
  have h' : k < a.data.toList.length := by simpa using h
  exact List.drop_eq_getElem_cons h'

theorem same_succ {a b : ByteArray} {k : Nat} (h : Same a b k) (ha : k < a.size) (hb : k < b.size) (he : ((a[k].toNat : Int) != (b[k].toNat : Int)) = false) : Same a b (k + 1) := by
  have e : a[k] = b[k] := by
    apply UInt8.toNat_inj.1
    have : (a[k].toNat : Int) = b[k].toNat := by simpa using he
    omega
  unfold Same at *
  rw [h, drop_at a k ha, drop_at b k hb, e]
  simp [Op.bytesLess]

theorem same_differ {a b : ByteArray} {k : Nat} (h : Same a b k) (ha : k < a.size) (hb : k < b.size) (he : ((a[k].toNat : Int) != (b[k].toNat : Int)) = true) : decide (a[k].toNat < b[k].toNat) = Op.bytesLess a.toList b.toList := by
  have e : ¬ a[k] = b[k] := by
    intro e
    rw [e] at he
    simp at he
  unfold Same at h
  rw [h, drop_at a k ha, drop_at b k hb]
  simp [Op.bytesLess, e, UInt8.lt_iff_toNat_lt]

theorem same_end {a b : ByteArray} {k : Nat} (h : Same a b k) (hk : k = min a.size b.size) : decide (a.size < b.size) = Op.bytesLess a.toList b.toList := by
  unfold Same at h
  rw [h]
  by_cases hab : a.size < b.size
  · obtain rfl : k = a.size := by omega
    rw [drop_at b a.size hab, List.drop_eq_nil_of_le (by simp)]
    simp [Op.bytesLess, hab]
  · obtain rfl : k = b.size := by omega
    rw [show b.data.toList.drop b.size = [] from List.drop_eq_nil_of_le (by simp)]
    have : ∀ l : List UInt8, Op.bytesLess l [] = false := fun l => by cases l <;> rfl
    rw [this]
    simpa using hab

theorem ret_bool {a b : Bool} (h : a = b) : Ending.returned (.bool a) = .returned (.bool b) := by rw [h]

set_option maxHeartbeats 1000000 in
theorem byteLess_any (a b : ByteArray) (w : World) (ha : a.size ≤ 9223372036854775807) (hb : b.size ≤ 9223372036854775807) :
    Calls Tryf.prog 6 #[.string a, .string b] w fun e w' => e = .returned (.bool (Op.bytesLess a.toList b.toList)) ∧ Below w.heap.size w w' := by
  go_enter Tryf.func6, Tryf.ntmps6
  go_wp2
  all_goals
    have hmin : ∃ n : Nat, n ≤ a.size ∧ n ≤ b.size ∧ Hid (n = min a.size b.size) := ⟨min a.size b.size, by omega, by omega, rfl⟩
    obtain ⟨n, hna, hnb, HN⟩ := hmin
    go_loopw [6] (fun i wr => ∃ k : Nat, k ≤ n ∧ i = .int .i64 k ∧ Hid (Same a b k) ∧ Hid (Below w.heap.size w wr)) (fun i _ => n - (intOf i).toNat)
    case atStart => exact ⟨0, by omega, rfl, same_zero a b, Below.refl _ _⟩
    case round =>
      obtain ⟨k, hk, rfl, HS, HB⟩ := hrel
      by_cases hlt : k < n
      · have hka : k < a.size := by omega
        have hkb : k < b.size := by omega
        have hmn := HN.out
        have hkb' : ((k : Int) < (b.size : Int)) := by omega
        go_wp2
        go_quiet (fail)
        go_wp2
        · have hd : ((a[k].toNat : Int) != (b[k].toNat : Int)) = true := by assumption
          have HE := hide (same_differ HS.out hka hkb hd)
          clear hmn
          go_quiet (fail)
          go_wp2
          go_ret
          exact ⟨ret_bool HE.out, below_drewN (below_drewN HB.out _) _⟩
        · have he : ((a[k].toNat : Int) != (b[k].toNat : Int)) = false := by assumption
          have HE := hide (same_succ HS.out hka hkb he)
          clear hmn
          go_roundw
          case rel => exact ⟨k + 1, by omega, by go_num, HE, below_drewN HB.out _⟩
          case measure => simp [intOf]; omega
      · have hmn := HN.out
        have hkn : k = n := by omega
        have HE := hide (same_end HS.out (hkn.trans hmn))
        go_wp2
        go_ret
        exact ⟨ret_bool HE.out, HB.out⟩

/-- The slice value (a, n, c) holds the strings L. -/
def Held (w : World) (a : Option Addr) (L : List ByteArray) : Prop :=
  L = [] ∨ ∃ b o, a = some ⟨b, o, none⟩ ∧ ∀ i, i < L.length → w.cell? ⟨b, o + i, none⟩ = some (.string (L.getD i ByteArray.empty))

theorem Held.at {w : World} {a : Option Addr} {L : List ByteArray} (h : Held w a L) {k : Nat} (hk : k < L.length) : ∃ b o, a = some ⟨b, o, none⟩ ∧ ∀ i, i < L.length → w.cell? ⟨b, o + i, none⟩ = some (.string (L.getD i ByteArray.empty)) := by
  rcases h with rfl | h
  · simp at hk
  · exact h

theorem Held.later {w w1 : World} {a : Option Addr} {L : List ByteArray} (h : Held w a L) (hb : Below w.heap.size w w1) : Held w1 a L := by
  rcases h with rfl | ⟨b, o, ha, hc⟩
  · exact .inl rfl
  · exact .inr ⟨b, o, ha, fun i hi => cell_later hb (hc i hi)⟩

/-- A bool; and where it is 'true' each string is short. -/
def Told (L : List ByteArray) (e : Ending) : Prop := ∃ b, e = .returned (.bool b) ∧ (b = true → ∀ i, i < L.length → (L.getD i ByteArray.empty).size ≤ 1048576)
theorem told_false (L : List ByteArray) : Told L (.returned (.bool false)) := ⟨false, rfl, fun h => by cases h⟩
/-- The first k strings are short. -/
def ShortTo (L : List ByteArray) (k : Nat) : Prop := ∀ i, i < k → (L.getD i ByteArray.empty).size ≤ 1048576
theorem short_succ {L : List ByteArray} {k : Nat} {s : ByteArray} (h : ShortTo L k) (hs : L.getD k ByteArray.empty = s) (hz : s.size ≤ 1048576) : ShortTo L (k + 1) := by
  intro i hi
  rcases Nat.lt_or_ge i k with h1 | h1
  · exact h i h1
  · obtain rfl : i = k := by omega
    rw [hs]; exact hz

set_option maxHeartbeats 1000000 in
theorem zzbytes_any (a : Option Addr) (c : Nat) (L : List ByteArray) (m : ByteArray) (w : World) (h : Held w a L) (hL : L.length ≤ 9223372036854775807) (hm : m.size ≤ 9223372036854775807) :
    Calls Tryf.prog 4 #[.string m, .slice a L.length c] w fun e w' => Told L e ∧ w' = w := by
  have HH := hide h
  clear h
  go_enter Tryf.func4, Tryf.ntmps4
  go_wp2
  · go_ret
    exact ⟨told_false L, rfl⟩
  · go_ret
    exact ⟨told_false L, rfl⟩
  · go_ret
    exact ⟨told_false L, rfl⟩
  · go_loop [5, 6] (fun t i => ∃ (k : Nat) (z : Int), k ≤ L.length ∧ i = .int .i64 k ∧ t = .int .i64 z ∧ 0 ≤ z ∧ z ≤ 1048576 ∧ Hid (ShortTo L k)) (fun _ i => L.length - (intOf i).toNat)
    case atStart => exact ⟨0, _, by omega, rfl, rfl, by omega, by omega, hide (fun i hi => by omega)⟩
    case round =>
      obtain ⟨k, z, hk, rfl, rfl, hz0, hz1, HS⟩ := hrel
      by_cases hlt : k < L.length
      · obtain ⟨b, o, rfl, hc⟩ := HH.out.at hlt
        obtain ⟨s, hs⟩ : ∃ s, Hid (L.getD k ByteArray.empty = s) := ⟨_, rfl⟩
        have hck : w.cell? ⟨b, o + k, none⟩ = some (.string s) := by rw [← hs.out]; exact hc k hlt
        clear hc
        go_wp2
        · go_ret
          exact ⟨told_false L, rfl⟩
        · go_ret
          exact ⟨told_false L, rfl⟩
        · go_round
          case rel => exact ⟨k + 1, _, by omega, by go_num, rfl, by omega, by omega, hide (short_succ HS.out hs.out (by omega))⟩
          case measure => simp [intOf]; omega
      · go_wp2
        all_goals
          go_ret
          exact ⟨⟨true, rfl, fun _ i hi => HS.out i (by omega)⟩, rfl⟩

end Go.Proofs.Qxb6612955aFmt
