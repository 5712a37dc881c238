/-
  The functions that only read a site, or a slice of numbers: zzlMember, under, UnderWay.
-/
import Derived.Test.Qxb6612755aBase
import Derived.Deep.LoopGhost
namespace Go.Proofs.Qxb6612755a
open Go.RowKit

/-- Is q among L? -/
def mem (L : List Int) (q : Int) : Bool := decide (q ∈ L)

theorem mem_take_succ (L : List Int) (q : Int) (k : Nat) (hk : k < L.length) (h : q ∉ L.take k) (hq : L.getD k 0 ≠ q) : q ∉ L.take (k + 1) := by
  rw [List.take_succ_eq_append_getElem hk]
  simp only [List.mem_append, List.mem_singleton, not_or]
  refine ⟨h, fun e => hq ?_⟩
  rw [e]; simp [List.getD_eq_getElem?_getD, hk]
theorem mem_yes (L : List Int) (q : Int) (k : Nat) (hk : k < L.length) (hq : L.getD k 0 = q) : true = mem L q := by
  unfold mem
  have : q ∈ L := by rw [← hq]; simp [List.getD_eq_getElem?_getD, hk]
  simp [this]
theorem mem_no (L : List Int) (q : Int) (k : Nat) (hk : L.length ≤ k) (h : q ∉ L.take k) : false = mem L q := by
  unfold mem
  rw [List.take_of_length_le hk] at h
  simp [h]
theorem ret_bool {a b : Bool} (h : a = b) : Ending.returned (.bool a) = .returned (.bool b) := by rw [h]
theorem ret_i64 {a b : Int} (h : a = b) : Ending.returned (.int .i64 a) = .returned (.int .i64 b) := by rw [h]

set_option maxHeartbeats 400000 in
theorem member_any (v : Value) (L : List Int) (q : Int) (w : World) (h : Row w v L) (hl : L.length ≤ 1048576) :
    Calls Try.prog 16 #[v, .int .u64 q] w fun e w' => e = .returned (.bool (mem L q)) ∧ w' = w := by
  rcases h with ⟨rfl, a, c, rfl⟩ | ⟨b, o, c, rfl, hc⟩
  · go_enter Try.func16, Try.ntmps16
    go_wp2
    go_loop [5] (fun i => i = .int .i64 0) (fun _ => 0)
    case atStart => rfl
    case round =>
      subst hrel
      go_wp2
      go_ret
      exact ⟨ret_bool rfl, rfl⟩
  · go_enter Try.func16, Try.ntmps16
    go_wp2
    go_loop [5] (fun i => ∃ k : Nat, k ≤ L.length ∧ i = .int .i64 k ∧ Hid (q ∉ L.take k)) (fun i => L.length - (intOf i).toNat)
    case atStart => exact ⟨0, Nat.zero_le _, rfl, hide (by simp)⟩
    case round =>
      obtain ⟨k, hk, rfl, H⟩ := hrel
      by_cases hlt : k < L.length
      · obtain ⟨x, hx⟩ : ∃ x, Hid (L.getD k 0 = x) := ⟨_, rfl⟩
        have hck : w.cell? ⟨b, o + k, none⟩ = some (.int .u64 x) := by rw [← hx.out]; exact hc k hlt
        clear hc
        go_wp2
        · go_ret
          have : (x == q) = true := by assumption
          exact ⟨ret_bool (mem_yes L q k hlt (by rw [hx.out]; simpa using this)), rfl⟩
        · have hne : (x == q) = false := by assumption
          go_round
          case rel => exact ⟨k + 1, by omega, by go_num, mem_take_succ L q k hlt H.out (by rw [hx.out]; simpa using hne)⟩
          case measure => simp [intOf]; omega
      · go_wp2
        go_ret
        exact ⟨ret_bool (mem_no L q k (by omega) H.out), rfl⟩

/-- Where q stands in rs, the first time; -1 where it does not. -/
def Found (rs : List Int) (q i : Int) : Prop := (i = -1 ∧ q ∉ rs) ∨ ∃ k : Nat, i = k ∧ k < rs.length ∧ rs.getD k 0 = q ∧ q ∉ rs.take k

/-- The five cells of read k, in any world that has kept what was there. -/
theorem Site.cells {w : World} {S g cap : Nat} {rs : List Int} (h : Site w S (.slice (some ⟨g, 0, none⟩) rs.length cap) rs) {wr : World} (hb : Below w.heap.size w wr) (k : Nat) (hk : k < rs.length) (j : Nat) (hj : j < 5) :
    wr.cell? ⟨g, k * 5 + j, none⟩ = (cell5 (rs.getD k 0))[j]? := by
  have h1 := h.own.cellAt (k * 5 + j) (by omega)
  rw [cells5_at rs k j hk hj] at h1
  obtain ⟨x, hx⟩ : ∃ x, (cell5 (rs.getD k 0))[j]? = some x := ⟨_, List.getElem?_eq_getElem (by simpa [cell5] using hj)⟩
  rw [hx] at h1 ⊢
  exact cell_later hb h1

set_option maxHeartbeats 400000 in
theorem under_any (S : Nat) (v : Value) (rs : List Int) (q : Int) (w : World) (h : Site w S v rs) (hl : rs.length ≤ 1048576) :
    Calls Try.prog 21 #[.pointer (some ⟨S, 0, none⟩), .int .u64 q] w fun e w' => (∃ i, e = .returned (.int .i64 i) ∧ Found rs q i) ∧ Below w.heap.size w w' := by
  have h13 := h.cell
  obtain ⟨hlen, ⟨rfl, h0⟩ | ⟨g, cap, cur, rfl, hSg, hg, hnc, hcm, hsz, htk⟩⟩ := h.own
  · have hrs : Hid (rs = []) := List.eq_nil_of_length_eq_zero h0
    clear h hlen h0 hl
    go_enter Try.func21, Try.ntmps21
    go_wp2
    go_loop [12] (fun i => i = .int .i64 0) (fun _ => 0)
    case atStart => rfl
    case round =>
      subst hrel
      go_wp2
      go_ret
      exact ⟨⟨-1, rfl, .inl ⟨rfl, by rw [hrs.out]; simp⟩⟩, Below.refl _ _⟩
  · unfold maxLen at hcm
    have HH := hide h
    clear h hlen hg hsz htk cur
    go_enter Try.func21, Try.ntmps21
    go_wp2
    go_loopw [12] (fun i wr => ∃ k : Nat, k ≤ rs.length ∧ i = .int .i64 k ∧ Hid (q ∉ rs.take k) ∧ Below w.heap.size w wr) (fun i _ => rs.length - (intOf i).toNat)
    case atStart => exact ⟨0, Nat.zero_le _, rfl, hide (by simp), Below.refl _ _⟩
    case round =>
      obtain ⟨k, hk, rfl, H, hb⟩ := hrel
      have HB := hide hb
      by_cases hlt : k < rs.length
      · obtain ⟨x, hx⟩ : ∃ x, Hid (rs.getD k 0 = x) := ⟨_, rfl⟩
        have hc : ∀ j, j < 5 → wr.cell? ⟨g, k * 5 + j, none⟩ = (cell5 x)[j]? := fun j hj => by
          rw [← hx.out]; exact HH.out.cells hb k hlt j hj
        have c0 : wr.cell? ⟨g, k * 5, none⟩ = some (.int .u64 x) := hc 0 (by decide)
        have c1 : wr.cell? ⟨g, k * 5 + 1, none⟩ = some (.string ByteArray.empty) := hc 1 (by decide)
        have c2 : wr.cell? ⟨g, k * 5 + 2, none⟩ = some (.int .i64 0) := hc 2 (by decide)
        have c3 : wr.cell? ⟨g, k * 5 + 3, none⟩ = some (.int .i64 0) := hc 3 (by decide)
        have c4 : wr.cell? ⟨g, k * 5 + 4, none⟩ = some (.bool false) := hc 4 (by decide)
        clear hc hb h13
        go_wp2
        · have hy : (x == q) = true := by assumption
          go_ret
          exact ⟨⟨(k : Int), rfl, .inr ⟨k, rfl, hlt, hx.out.trans (by simpa using hy), H.out⟩⟩, HB.out.alloc HB.out.size _⟩
        · have hne : (x == q) = false := by assumption
          go_roundw
          case rel => exact ⟨k + 1, by omega, by go_num, mem_take_succ rs q k hlt H.out (by rw [hx.out]; simpa using hne), HB.out.alloc HB.out.size _⟩
          case measure => simp [intOf]; omega
      · clear hb
        go_wp2
        go_ret
        exact ⟨⟨-1, rfl, .inl ⟨rfl, by have := H.out; rwa [List.take_of_length_le (by omega)] at this⟩⟩, HB.out⟩

theorem found_mem {rs : List Int} {q i : Int} (h : Found rs q i) : decide (0 ≤ i) = mem rs q := by
  unfold mem
  rcases h with ⟨rfl, h⟩ | ⟨k, rfl, hk, hq, _⟩
  · simp [h]
  · have : q ∈ rs := by rw [← hq]; simp [List.getD_eq_getElem?_getD, hk]
    simp [this]

set_option maxHeartbeats 400000 in
theorem underway_any (S : Nat) (v : Value) (rs : List Int) (q : Int) (w : World) (h : Site w S v rs) (hl : rs.length ≤ 1048576) :
    Calls Try.prog 17 #[.pointer (some ⟨S, 0, none⟩), .int .u64 q] w fun e w' => e = .returned (.bool (mem rs q)) ∧ Below w.heap.size w w' := by
  have hX := under_any S v rs q w h hl
  go_enter Try.func17, Try.ntmps17
  go_wp2_with (first | (go_at_call 21; refine hX.mono ?_; rintro e w2 ⟨⟨i, rfl, hf⟩, hb⟩))
  go_ret
  exact ⟨ret_bool (found_mem (by assumption)), by assumption⟩

end Go.Proofs.Qxb6612755a
