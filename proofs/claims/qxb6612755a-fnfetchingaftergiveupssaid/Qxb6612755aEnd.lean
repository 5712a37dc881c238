/-
  (*Site).end and (*Site).GiveUp: a read is dropped from those under way.
-/
import Derived.Test.Qxb6612755aCopy
import Derived.Deep.RegionLaw
import Derived.Laws.IdiomCopy
namespace Go.Proofs.Qxb6612755a
open Go.RowKit

/-- The list without the place k. -/
def without (rs : List Int) (k : Nat) : List Int := rs.take k ++ rs.drop (k + 1)

theorem length_without (rs : List Int) (k : Nat) (hk : k < rs.length) : (without rs k).length = rs.length - 1 := by
  unfold without; simp; omega

theorem heap_setCells (g : Nat) : ∀ (vs : List Value) (o : Nat) (w : World) (cur : Array Value) (t : TypeId), w.heap[g]? = some (.cells cur t (0, 0)) →
    ∃ cur', (w.setCells g o vs).heap[g]? = some (.cells cur' t (0, 0)) ∧ cur'.size = cur.size
  | [], _, w, cur, t, h => ⟨cur, h, rfl⟩
  | v :: vs, o, w, cur, t, h => by
    obtain ⟨cur', h1, h2⟩ := heap_setCells g vs (o + 1) (w.setCell ⟨g, o, none⟩ v) _ t (heap_setCell_same w g o cur t v h)
    exact ⟨cur', h1, by simpa using h2⟩

theorem heap_setCells_other (g : Nat) (k : Nat) (hk : k ≠ g) : ∀ (vs : List Value) (o : Nat) (w : World), (w.setCells g o vs).heap[k]? = w.heap[k]?
  | [], _, _ => rfl
  | v :: vs, o, w => (heap_setCells_other g k hk vs (o + 1) (w.setCell ⟨g, o, none⟩ v)).trans (Below.heap_setCell _ _ _ _ hk)

theorem size_setCells (g : Nat) : ∀ (vs : List Value) (o : Nat) (w : World), (w.setCells g o vs).heap.size = w.heap.size
  | [], _, _ => rfl
  | v :: vs, o, w => (size_setCells g vs (o + 1) (w.setCell ⟨g, o, none⟩ v)).trans (by simp)

theorem below_setCells {B g : Nat} {a : World} (hg : B ≤ g) : ∀ (vs : List Value) (o : Nat) (w : World), Below B a w → Below B a (w.setCells g o vs)
  | [], _, _, h => h
  | v :: vs, o, _, h => below_setCells hg vs (o + 1) _ (h.setCell (p := ⟨g, o, none⟩) hg v)

/-- The moved reads, laid over the place k: the row holds what is left. -/
theorem own_moved {w : World} {B g cap k : Nat} {rs : List Int} (h : w.ownsRow B 72 5 (.slice (some ⟨g, 0, none⟩) rs.length cap) rs.length (cells5 rs)) (hk : k < rs.length) :
    (w.setCells g (k * 5) (cells5 (rs.drop (k + 1)))).ownsRow B 72 5 (.slice (some ⟨g, 0, none⟩) (rs.length - 1) cap) (rs.length - 1) (cells5 (without rs k)) := by
  have hcell : ∀ j, j < rs.length * 5 → w.cell? ⟨g, j, none⟩ = (cells5 rs)[j]? := fun j hj => h.cellAt j hj
  obtain ⟨hl, ⟨h0, _⟩ | ⟨g', cap', cur, hv, hbg, hg, h1, h2, h3, h4⟩⟩ := h
  · cases h0
  · simp only [Value.slice.injEq, Option.some.injEq, Addr.mk.injEq, and_true, true_and] at hv
    obtain ⟨rfl, rfl⟩ := hv
    have hdl : (cells5 (rs.drop (k + 1))).length = (rs.length - (k + 1)) * 5 := by rw [length_cells5]; simp
    have htl : (cells5 (rs.take k)).length = k * 5 := by rw [length_cells5, take_len rs k (by omega)]
    obtain ⟨cur', hg', hs'⟩ := heap_setCells g (cells5 (rs.drop (k + 1))) (k * 5) w cur 72 hg
    refine ⟨by rw [length_cells5, length_without rs k hk], .inr ⟨g, cap, cur', rfl, hbg, hg', by omega, h2, by omega, ?_⟩⟩
    apply List.ext_getElem?
    intro i
    have hwl : (cells5 (without rs k)).length = (rs.length - 1) * 5 := by rw [length_cells5, length_without rs k hk]
    by_cases hi : i < (rs.length - 1) * 5
    · rw [List.getElem?_take, if_pos hi]
      have e1 : cur'.toList[i]? = (w.setCells g (k * 5) (cells5 (rs.drop (k + 1)))).cell? ⟨g, i, none⟩ := by
        rw [cell_of_row _ g i cur' 72 (0, 0) hg']; simp
      rw [e1]
      have e2 : cells5 (without rs k) = cells5 (rs.take k) ++ cells5 (rs.drop (k + 1)) := by unfold without; rw [cells5_append]
      rw [e2]
      by_cases hik : i < k * 5
      · rw [World.cell?_setCells_out g _ _ _ _ (fun _ _ => .inl hik), hcell i (by omega), List.getElem?_append_left (by omega)]
        have e3 : cells5 rs = cells5 (rs.take k) ++ cells5 (rs.drop k) := by rw [← cells5_append, List.take_append_drop]
        rw [e3, List.getElem?_append_left (by omega)]
      · rw [List.getElem?_append_right (by omega), htl]
        have hj : i - k * 5 < (cells5 (rs.drop (k + 1))).length := by omega
        have := World.cell?_setCells_in g (cells5 (rs.drop (k + 1))) (k * 5) w (fun j hj => by rw [hcell _ (by omega), List.getElem?_eq_getElem (by rw [length_cells5]; omega)]; rfl) (i - k * 5) hj
        rw [show k * 5 + (i - k * 5) = i by omega] at this
        rw [this, List.getElem?_eq_getElem hj]
    · rw [List.getElem?_eq_none (by rw [List.length_take]; omega), List.getElem?_eq_none (by omega)]

theorem cells5_one (rs : List Int) : ∀ u ∈ cells5 rs, u.oneCell' = true := by
  intro u hu
  simp only [cells5, List.mem_flatMap, cell5] at hu
  obtain ⟨r, _, hr⟩ := hu
  simp at hr
  rcases hr with rfl | rfl | rfl | rfl <;> rfl

/-- How 'end' and 'GiveUp' leave the site. -/
def Ended (w : World) (S : Nat) (rs : List Int) (w' : World) : Prop := (∃ u, Site w' S u rs) ∧ Below S w w'

theorem moved_block {w : World} {S g cap k : Nat} {rs : List Int} {X : List Value} (h : Site w S (.slice (some ⟨g, 0, none⟩) rs.length cap) rs) :
    ∃ arr, (w.drew.setCells g (k * 5) X).heap[S]? = some (.cells arr 70 (0, 0)) ∧ arr.size = 15 ∧ arr[13]? = some (.slice (some ⟨g, 0, none⟩) rs.length cap) := by
  have hSg : S < g := by have := (h.own.lt g rfl).1; omega
  obtain ⟨arr, hg, hs, h13⟩ := h.block
  exact ⟨arr, by rw [heap_setCells_other g S (by omega)]; exact hg, hs, h13⟩

theorem ended_some {w : World} {S g cap k : Nat} {rs : List Int} {X : List Value} (h : Site w S (.slice (some ⟨g, 0, none⟩) rs.length cap) rs) (hk : k < rs.length) (hX : X = cells5 (rs.drop (k + 1))) :
    Ended w S (without rs k) ((w.drew.setCells g (k * 5) X).setCell ⟨S, 13, none⟩ (.slice (some ⟨g, 0, none⟩) (k + (rs.length - (k + 1))) cap)) := by
  have hSg : S < g := by have := (h.own.lt g rfl).1; omega
  refine ⟨⟨_, Site.put (moved_block h) ?_⟩, (below_setCells (show S ≤ g by omega) _ _ _ (Below.refl _ _).drew).setCell (p := ⟨S, 13, none⟩) (Nat.le_refl _) _⟩
  subst hX
  rw [length_without rs k hk, show k + (rs.length - (k + 1)) = rs.length - 1 by omega]
  exact own_moved h.own.drew hk

theorem ended_nil {w : World} {S g cap k : Nat} {rs : List Int} {X : List Value} (h : Site w S (.slice (some ⟨g, 0, none⟩) rs.length cap) rs) (hk : k < rs.length) (hX : X = cells5 (rs.drop (k + 1))) (h1 : rs.length = 1) (m : Nat) (hm : k + (rs.length - (k + 1)) = m) :
    Ended w S (without rs k) (((w.drew.setCells g (k * 5) X).setCell ⟨S, 13, none⟩ (.slice (some ⟨g, 0, none⟩) m cap)).setCell ⟨S, 13, none⟩ (.slice none 0 0)) := by
  subst hm
  obtain ⟨⟨u, hs⟩, hb⟩ := ended_some h hk hX
  have e : without rs k = [] := List.eq_nil_of_length_eq_zero (by rw [length_without rs k hk]; omega)
  refine ⟨⟨_, Site.put (v := u) hs.block ?_⟩, hb.setCell (p := ⟨S, 13, none⟩) (Nat.le_refl _) _⟩
  rw [e]
  exact World.ownsRow_nil _ _ _ _

set_option maxHeartbeats 1600000 in
set_option maxRecDepth 1000000 in
theorem end_any (S g cap k : Nat) (rs : List Int) (w : World) (h : Site w S (.slice (some ⟨g, 0, none⟩) rs.length cap) rs) (hk : k < rs.length) (hl : rs.length ≤ 1048576) (hc : rs.length ≤ cap) (_hm : cap ≤ 9223372036854775807) :
    Calls Try.prog 22 #[.pointer (some ⟨S, 0, none⟩), .int .i64 k] w fun e w' => e = .returned (.tuple #[]) ∧ Ended w S (without rs k) w' := by
  obtain ⟨i0, hi0, hz0, hz1, hz2⟩ := info_parts info72
  have hSg : S < g := by have := (h.own.lt g rfl).1; omega
  have hcell : ∀ j, j < rs.length * 5 → w.cell? ⟨g, j, none⟩ = (cells5 rs)[j]? := fun j hj => h.own.cellAt j hj
  have hdl : (cells5 (rs.drop (k + 1))).length = (rs.length - (k + 1)) * 5 := by rw [length_cells5]; simp
  have hmove : ∀ j, j < (rs.length - (k + 1)) * 5 → (cells5 (rs.drop (k + 1)))[j]? = (cells5 rs)[(k + 1) * 5 + j]? := fun j hj => by
    have e3 : cells5 rs = cells5 (rs.take (k + 1)) ++ cells5 (rs.drop (k + 1)) := by rw [← cells5_append, List.take_append_drop]
    have e4 : (cells5 (rs.take (k + 1))).length = (k + 1) * 5 := by rw [length_cells5, take_len rs (k + 1) (by omega)]
    rw [e3, List.getElem?_append_right (by omega), e4, Nat.add_sub_cancel_left]
  obtain ⟨A, hA, hnews⟩ : ∃ A : Addr, (if cap = k + 1 then some (⟨g, 0, none⟩ : Addr) else some ⟨g, (k + 1) * 5, none⟩) = some A ∧ Hid (∀ j u, (cells5 (rs.drop (k + 1)))[j]? = some u → w.drew.cell? (A.add j) = some u) := by
    by_cases hck : cap = k + 1
    · refine ⟨⟨g, 0, none⟩, by simp [hck], fun j u hu => ?_⟩
      have := (List.getElem?_eq_some_iff.1 hu).1
      omega
    · refine ⟨⟨g, (k + 1) * 5, none⟩, by simp [hck], fun j u hu => ?_⟩
      have hj := (List.getElem?_eq_some_iff.1 hu).1
      rw [add_off]
      show w.cell? _ = _
      rw [hcell _ (by omega), ← hmove j (by omega)]
      exact hu
  have s1 : Hid ((cells5 (rs.drop (k + 1))).length = (rs.length - (k + 1)) * 5) := hdl
  have s2 : Hid (∀ u ∈ cells5 (rs.drop (k + 1)), u.oneCell' = true) := cells5_one _
  have s3 : Hid (∀ j, j < (cells5 (rs.drop (k + 1))).length → (w.drew.cell? ⟨g, 0 + k * 5 + j, none⟩).isSome = true ∧ w.drew.frozen? ⟨g, 0 + k * 5 + j, none⟩ = false) := fun j hj => by
    refine ⟨?_, h.own.frozenAt _⟩
    show (w.cell? _).isSome = true
    rw [hcell _ (by omega), List.getElem?_eq_getElem (by rw [length_cells5]; omega)]
    rfl
  obtain ⟨X, hX⟩ : ∃ X, X = cells5 (rs.drop (k + 1)) := ⟨_, rfl⟩
  rw [← hX] at s1 s2 s3 hnews
  have HX : Hid (X = cells5 (rs.drop (k + 1))) := hX
  have h13 := h.cell
  have f13 := h.frozen 13
  have k13 : (w.drew.setCells g (k * 5) X).cell? ⟨S, 13, none⟩ = some (.slice (some ⟨g, 0, none⟩) rs.length cap) := by
    rw [World.cell?_setCells_out g _ _ _ _ (fun e _ => absurd e (by show ¬ S = g; omega))]; exact h13
  have e13 : (w.drew.setCells g (k * 5) X).frozen? ⟨S, 13, none⟩ = false := (World.frozen?_setCells g _ _ _ _).trans f13
  have HH := hide h
  have hwr : IntKind.i64.wrap ((k : Int) + 1) = (k : Int) + 1 := by rw [IntKind.wrap_i64]; omega
  have hp0 : (0 : Int) ≤ (k : Int) + 1 := by omega
  have hp1 : (k : Int) + 1 ≤ (rs.length : Int) := by omega
  have hp2 : ((k : Int) + 1).toNat = k + 1 := by omega
  have hkc : k ≤ cap := by omega
  clear hX hcell hdl hmove h
  go_enter Try.func22, Try.ntmps22
  go_wp2_with fail
  go_region_law (refine step_append_room rfl (.tmp 10) (.tmp 17) 64 rfl 72 i0 5 Try.underlying64 hi0 hz1 g 0 k cap (by simp [Act.eval, Act.put]) A (rs.length - (k + 1)) (cap - (k + 1)) X (by simp [Act.eval, Act.put]) s1.out hnews.out s2.out (by omega) s3.out ?_)
  · by_cases h1 : rs.length = 1
    · have HN : Hid (rs.length = 1) := h1
      have hz : k + (rs.length - (k + 1)) = 0 := by omega
      clear h1
      go_wp2
      go_end0
      exact ⟨rfl, ended_nil HH.out hk HX.out HN.out 0 (by have := HN.out; omega)⟩
    · have hz : 0 < k + (rs.length - (k + 1)) := by omega
      clear h1
      go_wp2
      go_end0
      exact ⟨rfl, ended_some HH.out hk HX.out⟩
  · by_cases h1 : rs.length = 1
    · have HN : Hid (rs.length = 1) := h1
      have hz : k + (rs.length - (k + 1)) = 0 := by omega
      clear h1
      go_wp2
      go_end0
      exact ⟨rfl, ended_nil HH.out hk HX.out HN.out 0 (by have := HN.out; omega)⟩
    · have hz : 0 < k + (rs.length - (k + 1)) := by omega
      clear h1
      go_wp2
      go_end0
      exact ⟨rfl, ended_some HH.out hk HX.out⟩

/-- What GiveUp of q makes of the list. -/
def Gone (rs : List Int) (q : Int) (rs' : List Int) : Prop := (q ∉ rs ∧ rs' = rs) ∨ ∃ k, k < rs.length ∧ rs.getD k 0 = q ∧ rs' = without rs k

def GaveUp (w : World) (S : Nat) (rs : List Int) (q : Int) (w' : World) : Prop := ∃ rs', Gone rs q rs' ∧ Ended w S rs' w'

set_option maxHeartbeats 1000000 in
theorem giveUp_any (S : Nat) (v : Value) (rs : List Int) (q : Int) (w : World) (h : Site w S v rs) (hl : rs.length ≤ 1048576) :
    Calls Try.prog 14 #[.pointer (some ⟨S, 0, none⟩), .int .u64 q] w fun e w' => e = .returned (.tuple #[]) ∧ GaveUp w S rs q w' := by
  have hX := under_any S v rs q w h hl
  have HH := hide h
  clear h
  go_enter Try.func14, Try.ntmps14
  go_wp2_with fail
  refine hX.mono ?_
  rintro e w2 ⟨⟨i, rfl, hf⟩, hb⟩
  have HS2 : Hid (Site w2 S v rs) := HH.out.later hb
  have HB2 := hide hb
  clear hb hX
  rcases hf with ⟨rfl, hq⟩ | ⟨k, rfl, hk, hq, _⟩
  · have HQ := hide hq
    clear hq
    go_wp2_with fail
    go_end0
    exact ⟨rfl, rs, .inl ⟨HQ.out, rfl⟩, ⟨_, HS2.out⟩, HB2.out.mono (Nat.le_of_lt HH.out.lt)⟩
  · have HQ := hide hq
    clear hq
    obtain ⟨g, cap, rfl, hc, hm⟩ : ∃ g cap, v = .slice (some ⟨g, 0, none⟩) rs.length cap ∧ rs.length ≤ cap ∧ cap ≤ maxLen := by
      rcases HS2.out.own.2 with ⟨_, h0⟩ | ⟨g, cap, cur, hv, _, _, h1, h2, _⟩
      · omega
      · exact ⟨g, cap, hv, h1, h2⟩
    unfold maxLen at hm
    have hE := end_any S g cap k rs w2 HS2.out hk hl hc hm
    go_wp2_with (first | (go_at_call 22; refine hE.mono ?_; rintro e w3 ⟨rfl, hend⟩))
    go_end0
    exact ⟨rfl, _, .inr ⟨k, hk, HQ.out, rfl⟩, hend.1, (HB2.out.mono (Nat.le_of_lt HH.out.lt)).trans hend.2⟩

end Go.Proofs.Qxb6612755a
