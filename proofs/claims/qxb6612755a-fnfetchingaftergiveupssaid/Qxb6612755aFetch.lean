/-
  Fetching: a new slice of the numbers of the reads under way.
-/
import Derived.Test.Qxb6612755aReads
namespace Go.Proofs.Qxb6612755a
open Go.RowKit

theorem info31 : (Try.prog.info? 31).map (fun i => (i.zero, i.size, i.bytes)) = some (some (.int .u64 0), 1, 8) := by kernel_rfl

def u64s (L : List Int) : List Value := L.map (Value.int .u64)

theorem u64s_step (rs : List Int) (k : Nat) (hk : k < rs.length) (x : Int) (hx : rs.getD k 0 = x) : u64s (rs.take k) ++ [.int .u64 x] = u64s (rs.take (k + 1)) := by
  rw [List.take_succ_eq_append_getElem hk]
  simp only [u64s, List.map_append, List.map_cons, List.map_nil]
  rw [← hx]; simp [List.getD_eq_getElem?_getD, hk]

theorem own_step {w wr w1 : World} {v v' : Value} {rs : List Int} {k : Nat} {x : Int} {o1 o2 : Obj} (hk : k < rs.length) (hx : rs.getD k 0 = x) (hown : wr.ownsRow w.heap.size 31 1 v k (u64s (rs.take k)))
    (hb : Below w.heap.size w wr) (h1 : w1.ownsRow w.heap.size 31 1 v' (k + 1) (u64s (rs.take k) ++ [.int .u64 x])) (hg : ((wr.alloc o1).alloc o2).grownBy w1 v.ownBlock) :
    w1.ownsRow w.heap.size 31 1 v' (k + 1) (u64s (rs.take (k + 1))) ∧ Below w.heap.size w w1 := by
  refine ⟨by rw [← u64s_step rs k hk x hx]; exact h1, ?_⟩
  refine ((hb.alloc hb.size _).alloc (by simp; have := hb.size; omega) _).grown hg (by simp; have := hb.size; omega) ?_
  intro j hj
  obtain ⟨_, ⟨rfl, _⟩ | ⟨g, cap, cur, rfl, hbg, _⟩⟩ := hown
  · simp [Value.ownBlock] at hj
  · simp [Value.ownBlock] at hj; omega

set_option maxHeartbeats 1000000 in
theorem fetching_any (S : Nat) (v : Value) (rs : List Int) (w : World) (h : Site w S v rs) (hl : rs.length ≤ 1048576) :
    Calls Try.prog 15 #[.pointer (some ⟨S, 0, none⟩)] w fun e w' => (∃ u, e = .returned u ∧ w'.ownsRow w.heap.size 31 1 u rs.length (u64s rs)) ∧ Below w.heap.size w w' := by
  have h13 := h.cell
  obtain ⟨hlen, ⟨rfl, h0⟩ | ⟨g, cap, cur, rfl, hSg, hg, hnc, hcm, hsz, htk⟩⟩ := h.own
  · obtain rfl : rs = [] := List.eq_nil_of_length_eq_zero h0
    clear h hlen h0 hl
    go_enter Try.func15, Try.ntmps15
    go_wp2
    go_loop [3, 11] (fun r i => r = .slice none 0 0 ∧ i = .int .i64 0) (fun _ _ => 0)
    case atStart => exact ⟨rfl, rfl⟩
    case round =>
      obtain ⟨rfl, rfl⟩ := hrel
      go_wp2
      go_ret
      exact ⟨⟨_, rfl, World.ownsRow_nil _ _ _ _⟩, Below.refl _ _⟩
  · unfold maxLen at hcm
    have HH := hide h
    clear h hlen hg hsz htk cur
    obtain ⟨i0, hi, hz0, hz1, hz2⟩ := info_parts info31
    go_enter Try.func15, Try.ntmps15
    go_wp2
    go_loopw [3, 11] (fun u i wr => ∃ k : Nat, k ≤ rs.length ∧ i = .int .i64 k ∧ wr.ownsRow w.heap.size 31 1 u k (u64s (rs.take k)) ∧ Below w.heap.size w wr) (fun _ i _ => rs.length - (intOf i).toNat)
    case atStart => exact ⟨0, Nat.zero_le _, rfl, World.ownsRow_nil _ _ _ _, Below.refl _ _⟩
    case round =>
      obtain ⟨k, hk, rfl, hown, hb⟩ := hrel
      have HB := hide hb
      by_cases hlt : k < rs.length
      · obtain ⟨x, hx⟩ : ∃ x, Hid (rs.getD k 0 = x) := ⟨_, rfl⟩
        have hc : ∀ j, j < 5 → wr.cell? ⟨g, k * 5 + j, none⟩ = (cell5 x)[j]? := fun j hj => by
          rw [← hx.out]; exact HH.out.cells hb k hlt j hj
        have c0 : wr.cell? ⟨g, k * 5, none⟩ = some (.int .u64 x) := hc 0 (by decide)
        have c1 : wr.cell? ⟨g, k * 5 + 1, none⟩ = some (.string ByteArray.empty) := hc 1 (by decide)
        have c2 : wr.cell? ⟨g, k * 5 + 2, none⟩ = some (.int .i64 0) := hc 2 (by decide)
        have c3 : wr.cell? ⟨g, k * 5 + 3, none⟩ = some (.int .i64 0) := hc 3 (by decide)
        have c4 : wr.cell? ⟨g, k * 5 + 4, none⟩ = some (.bool false) := hc 4 (by decide)
        clear hc hb h13
        go_wp2_with (first
          | (at_builtin; refine wpList_append_own _ rfl _ _ 29 rfl w.heap.size 31 i0 (.int .u64 0) 1 8 Try.underlying29 hi hz0 hz1 hz2 rfl (by decide) _ _ _ rfl ((hown.alloc _).alloc _) ⟨wr.heap.size + 1, 0, none⟩ 1 1 [.int .u64 x] rfl rfl ?c1 ?c2 ?c3 ?c4 ?c5 ?_))
        case c1 =>
          intro j u hj
          match j, hj with
          | 0, hj => simp at hj; subst hj; simp [Addr.add]
        case c2 => intro u hu; simp at hu; subst hu; rfl
        case c3 => unfold maxLen; omega
        case c4 => omega
        case c5 => have := HB.out.size; simp; omega
        · intro v' w1 hown' hgrow _
          have R := own_step hlt hx.out hown HB.out hown' hgrow
          clear hown' hgrow hown
          go_wp2
          go_roundw
          case rel => exact ⟨k + 1, by omega, by go_num, R.1, R.2⟩
          case measure => simp [intOf]; omega
      · clear hb
        obtain rfl : k = rs.length := by omega
        go_wp2
        go_ret
        exact ⟨⟨_, rfl, by rw [List.take_of_length_le (Nat.le_refl _)] at hown; exact hown⟩, HB.out⟩

end Go.Proofs.Qxb6612755a
