/-
  ZZSiteReading: a new site with the given reads under way.
-/
import Derived.Test.Qxb6612755aFetch
namespace Go.Proofs.Qxb6612755a
open Go.RowKit

theorem info72 : (Try.prog.info? 72).map (fun i => (i.zero, i.size, i.bytes)) = some (some (.agg #[.int .u64 0, .string ByteArray.empty, .int .i64 0, .int .i64 0, .bool false]), 5, 48) := by kernel_rfl

theorem Site.frozen {w : World} {S : Nat} {v : Value} {rs : List Int} (h : Site w S v rs) (j : Nat) : w.frozen? ⟨S, j, none⟩ = false := by
  obtain ⟨arr, hg, _⟩ := h.block
  exact frozen_of_row w S j arr 70 hg

theorem Site.some {w : World} {S : Nat} {v : Value} {rs : List Int} (h : Site w S v rs) (j : Nat) (hj : j < 15) : ∃ x, w.cell? ⟨S, j, none⟩ = some x := by
  obtain ⟨arr, hg, hs, _⟩ := h.block
  rw [cell_of_row w S j arr 70 (0, 0) hg]
  exact ⟨_, Array.getElem?_eq_getElem (by omega)⟩

/-- A store into another of the site's own cells. -/
theorem Site.store {w : World} {S : Nat} {v : Value} {rs : List Int} (h : Site w S v rs) (j : Nat) (hj : j ≠ 13) (u : Value) : Site (w.setCell ⟨S, j, none⟩ u) S v rs := by
  refine ⟨?_, ownsRow_setCell_below h.own (show S < S + 1 by omega) u⟩
  obtain ⟨arr, hg, hs, h13⟩ := h.block
  exact ⟨_, heap_setCell_same w S j arr 70 u hg, by simpa using hs, by rw [Array.getElem?_setIfInBounds_ne hj]; exact h13⟩

/-- The slice of the reads is stored anew. -/
theorem Site.put {w : World} {S : Nat} {v v' : Value} {rs' : List Int} (h : ∃ arr, w.heap[S]? = Option.some (.cells arr 70 (0, 0)) ∧ arr.size = 15 ∧ arr[13]? = Option.some v) (hown : w.ownsRow (S + 1) 72 5 v' rs'.length (cells5 rs')) :
    Site (w.setCell ⟨S, 13, none⟩ v') S v' rs' := by
  refine ⟨?_, ownsRow_setCell_below hown (show S < S + 1 by omega) v'⟩
  obtain ⟨arr, hg, hs, h13⟩ := h
  exact ⟨_, heap_setCell_same w S 13 arr 70 v' hg, by simpa using hs, by rw [Array.getElem?_setIfInBounds_self_of_lt (by omega)]⟩

theorem blk3 (w : World) (o1 o2 : Obj) (arr : Array Value) (t : TypeId) : (((w.alloc o1).alloc o2).alloc (.cells arr t)).heap[w.heap.size + 1 + 1]? = some (.cells arr t (0, 0)) := by
  have := Deep.blk_alloc_new ((w.alloc o1).alloc o2) (.cells arr t)
  simpa using this

set_option maxHeartbeats 400000 in
theorem newSite_any (w : World) :
    Calls Try.prog 20 #[.int .i64 0, .agg #[.int .i64 0, .int .i64 0, .slice none 0 0, .map none, .slice none 0 0], .nilIface] w fun e w' =>
      (∃ S, e = .returned (.pointer (some ⟨S, 0, none⟩)) ∧ w.heap.size ≤ S ∧ Site w' S (.slice none 0 0) []) ∧ Below w.heap.size w w' := by
  have hmm := @run_makeMap Try.prog
  go_enter Try.func20, Try.ntmps20
  go_wp2
  go_ret
  refine ⟨⟨_, rfl, by omega, ⟨⟨_, blk3 _ _ _ _ _, rfl, rfl⟩, World.ownsRow_nil _ _ _ _⟩⟩, ?_⟩
  exact ((((Below.refl _ _).alloc (Nat.le_refl _) _).alloc (by simp) _).alloc (by simp; omega) _)

theorem take_len (L : List Int) (k : Nat) (hk : k ≤ L.length) : (L.take k).length = k := by simp; omega
theorem cells5_step (L : List Int) (k : Nat) (hk : k < L.length) (x : Int) (hx : L.getD k 0 = x) : cells5 (L.take k) ++ cell5 x = cells5 (L.take (k + 1)) := by
  rw [List.take_succ_eq_append_getElem hk, cells5_append]
  congr 1
  rw [← hx]; simp [cells5, List.getD_eq_getElem?_getD, hk]

/-- One append of a read, and the store of the slice: what became of the site. -/
theorem site_step {w wr w1 : World} {S : Nat} {u v' : Value} {L : List Int} {k : Nat} {x : Int} {o : Obj} (hk : k < L.length) (hx : L.getD k 0 = x) (hS : w.heap.size ≤ S) (h : Site wr S u (L.take k))
    (hb : Below w.heap.size w wr) (h1 : w1.ownsRow (S + 1) 72 5 v' (k + 1) (cells5 (L.take k) ++ cell5 x)) (hg : (wr.alloc o).grownBy w1 u.ownBlock) :
    (∃ arr, w1.heap[S]? = some (.cells arr 70 (0, 0)) ∧ arr.size = 15 ∧ arr[13]? = some u) ∧ Below w.heap.size w w1 ∧ w1.ownsRow (S + 1) 72 5 v' (L.take (k + 1)).length (cells5 (L.take (k + 1))) ∧ S < w1.heap.size := by
  have hne : some S ≠ u.ownBlock := fun e => by have := h.own.lt S e.symm; omega
  have hlt := h.lt
  refine ⟨?_, ?_, ?_, ?_⟩
  · obtain ⟨arr, hg0, hs, h13⟩ := h.block
    exact ⟨arr, by rw [hg.block S (by simp; omega) hne, Deep.blk_alloc_lt _ _ _ hlt]; exact hg0, hs, h13⟩
  · refine (hb.alloc hb.size _).grown hg (by simp; have := hb.size; omega) ?_
    intro j hj
    have := h.own.lt j hj
    omega
  · rw [take_len L (k + 1) (by omega), ← cells5_step L k hk x hx]; exact h1
  · have := hg.size; simp at this; omega

/-- How ZZSiteReading ends. -/
def Made (w : World) (L : List Int) (e : Ending) (w' : World) : Prop := ∃ S u, e = .returned (.pointer (some ⟨S, 0, none⟩)) ∧ w.heap.size ≤ S ∧ Site w' S u L ∧ Below w.heap.size w w'

set_option maxHeartbeats 1000000 in
theorem new_any (v : Value) (L : List Int) (w : World) (h : Row w v L) (hl : L.length ≤ 1048576) :
    Calls Try.prog 13 #[v] w fun e w' => Made w L e w' := by
  have hN := newSite_any w
  rcases h with ⟨rfl, a, c, rfl⟩ | ⟨b, o, c, rfl, hc⟩
  · go_enter Try.func13, Try.ntmps13
    go_wp2_with (first | (go_at_call 20; refine hN.mono ?_; rintro e w1 ⟨⟨S, rfl, hS, hsite⟩, hb⟩))
    go_loop [10] (fun i => i = .int .i64 0) (fun _ => 0)
    case atStart => rfl
    case round =>
      subst hrel
      go_wp2
      go_ret
      exact ⟨S, _, rfl, hS, hsite, hb⟩
  · obtain ⟨i0, hi, hz0, hz1, hz2⟩ := info_parts info72
    go_enter Try.func13, Try.ntmps13
    go_wp2_with (first | (go_at_call 20; refine hN.mono ?_; rintro e w1 ⟨⟨S, rfl, hS, hsite⟩, hb⟩))
    have HS := hide hsite
    have HB := hide hb
    clear hsite hb hN
    go_loopw [10] (fun i wr => ∃ k : Nat, k ≤ L.length ∧ i = .int .i64 k ∧ ∃ u, Site wr S u (L.take k) ∧ Below w.heap.size w wr) (fun i _ => L.length - (intOf i).toNat)
    case atStart => exact ⟨0, Nat.zero_le _, rfl, _, HS.out, HB.out⟩
    case round =>
      clear HS HB
      obtain ⟨k, hk, rfl, u, hsite, hb⟩ := hrel
      have HS := hide hsite
      have HB := hide hb
      by_cases hlt : k < L.length
      · obtain ⟨x, hx⟩ : ∃ x, Hid (L.getD k 0 = x) := ⟨_, rfl⟩
        have hck : wr.cell? ⟨b, o + k, none⟩ = some (.int .u64 x) := by rw [← hx.out]; exact cell_later hb (hc k hlt)
        have h13 := hsite.cell
        have hown := hsite.own
        clear hc hsite hb
        go_wp2_with (first
          | (at_builtin; refine wpList_append_own _ rfl _ _ 64 rfl (S + 1) 72 i0 (.agg #[.int .u64 0, .string ByteArray.empty, .int .i64 0, .int .i64 0, .bool false]) 5 48 Try.underlying64 hi hz0 hz1 hz2 rfl (by decide) _ _ _ rfl (hown.alloc _) ⟨wr.heap.size, 0, none⟩ 1 1 (cell5 x) rfl rfl ?c1 ?c2 ?c3 ?c4 ?c5 ?_))
        case c1 =>
          intro j y hj
          match j, hj with
          | 0, hj => simp [cell5] at hj; subst hj; simp [Addr.add]
          | 1, hj => simp [cell5] at hj; subst hj; simp [Addr.add]; rfl
          | 2, hj => simp [cell5] at hj; subst hj; simp [Addr.add]
          | 3, hj => simp [cell5] at hj; subst hj; simp [Addr.add]
          | 4, hj => simp [cell5] at hj; subst hj; simp [Addr.add]
          | j + 5, hj => simp [cell5] at hj
        case c2 => intro y hy; simp [cell5] at hy; rcases hy with rfl | rfl | rfl | rfl <;> rfl
        case c3 => unfold maxLen; simp; omega
        case c4 => simp; omega
        case c5 => have := HS.out.lt; simp; omega
        · intro v' w1 hown' hgrow _
          obtain ⟨hblk, hbel, hown2, hlt2⟩ := site_step hlt hx.out hS HS.out HB.out hown' hgrow
          have HK := hide hblk
          have HL := hide hbel
          have HO := hide hown2
          obtain ⟨_, ⟨_, h0⟩ | ⟨g', cap', cur', hv', hrest⟩⟩ := hown'
          · omega
          · obtain ⟨arr, hg1, hs1, h131⟩ := hblk
            have e13 : w1.cell? ⟨S, 13, none⟩ = some u := by simp [World.cell?, hg1, h131]
            have f13 : w1.frozen? ⟨S, 13, none⟩ = false := frozen_of_row w1 S 13 arr 70 hg1
            clear hg1 hs1 h131 arr hbel hown2 hgrow hrest hown
            subst hv'
            go_wp2
            go_roundw
            case rel => exact ⟨k + 1, by omega, by go_num, _, Site.put HK.out HO.out, HL.out.setCell hS _⟩
            case measure => simp [intOf]; omega
      · obtain rfl : k = L.length := by omega
        clear hsite hb
        rw [List.take_of_length_le (Nat.le_refl _)] at HS
        by_cases hpos : 0 < L.length
        · obtain ⟨x, hx⟩ : ∃ x, Hid (L.getD (L.length - 1) 0 = x) := ⟨_, rfl⟩
          have hck : wr.cell? ⟨b, o + (L.length - 1), none⟩ = some (.int .u64 x) := by rw [← hx.out]; exact cell_later HB.out (hc _ (by omega))
          obtain ⟨y, h10⟩ := HS.out.some 10 (by omega)
          have f10 := HS.out.frozen 10
          clear hc
          go_wp2
          go_ret
          exact ⟨S, u, rfl, hS, HS.out.store 10 (by decide) _, HB.out.setCell hS _⟩
        · go_wp2
          go_ret
          exact ⟨S, u, rfl, hS, HS.out, HB.out⟩

end Go.Proofs.Qxb6612755a
