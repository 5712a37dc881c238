/-
  What the walks over 'protocol.Site' speak of: slices of numbers, a site and its reads under way. No walk here.
-/
import Derived.Test.Qxb6612755aRows
import Derived.WalkKit
import Derived.WalkSpells
import Derived.WalkLawsBesides
import Derived.Laws.CopyOwn
import Derived.Deep.OwnRows
import Derived.OpenShut
namespace Go.Proofs.Qxb6612755a
open Go.RowKit

theorem hide {p : Prop} (h : p) : Hid p := h

/-- The slice value v holds the numbers L, in w. -/
def Row (w : World) (v : Value) (L : List Int) : Prop :=
  (L = [] ∧ ∃ a c, v = .slice a 0 c) ∨
  ∃ b o c, v = .slice (some ⟨b, o, none⟩) L.length c ∧ ∀ i, i < L.length → w.cell? ⟨b, o + i, none⟩ = some (.int .u64 (L.getD i 0))

theorem Row.later {w w1 : World} {v : Value} {L : List Int} (h : Row w v L) (hb : Below w.heap.size w w1) : Row w1 v L := by
  rcases h with h | ⟨b, o, c, rfl, hc⟩
  · exact .inl h
  · exact .inr ⟨b, o, c, rfl, fun i hi => cell_later hb (hc i hi)⟩

/-- Five cells: one read under way. -/
def cell5 (r : Int) : List Value := [.int .u64 r, .string ByteArray.empty, .int .i64 0, .int .i64 0, .bool false]
def cells5 (rs : List Int) : List Value := rs.flatMap cell5

theorem length_cells5 (rs : List Int) : (cells5 rs).length = rs.length * 5 := by
  induction rs with
  | nil => rfl
  | cons r rs ih => simp only [cells5, List.flatMap_cons, List.length_append, List.length_cons] at *; rw [ih]; simp [cell5]; omega

theorem cells5_append (a b : List Int) : cells5 (a ++ b) = cells5 a ++ cells5 b := by simp [cells5]

theorem cells5_at (rs : List Int) (i j : Nat) (hi : i < rs.length) (hj : j < 5) : (cells5 rs)[i * 5 + j]? = (cell5 (rs.getD i 0))[j]? := by
  induction rs generalizing i with
  | nil => simp at hi
  | cons r rs ih =>
    have hl : (cell5 r).length = 5 := rfl
    cases i with
    | zero => simp only [cells5, List.flatMap_cons]; rw [List.getElem?_append_left (by simp [hl]; omega)]; simp
    | succ i =>
      simp only [cells5, List.flatMap_cons]
      rw [List.getElem?_append_right (by simp [hl]; omega), hl, show (i + 1) * 5 + j - 5 = i * 5 + j by omega]
      exact ih i (by simpa using hi)

/-- A site in block S, its reads under way bearing the numbers rs; the slice 'reads' is v. -/
structure Site (w : World) (S : Nat) (v : Value) (rs : List Int) : Prop where
  block : ∃ arr, w.heap[S]? = some (.cells arr 70 (0, 0)) ∧ arr.size = 15 ∧ arr[13]? = some v
  own : w.ownsRow (S + 1) 72 5 v rs.length (cells5 rs)

theorem Site.lt {w : World} {S : Nat} {v : Value} {rs : List Int} (h : Site w S v rs) : S < w.heap.size := by
  obtain ⟨arr, hg, _⟩ := h.block
  exact (Array.getElem?_eq_some_iff.1 hg).1

theorem Site.cell {w : World} {S : Nat} {v : Value} {rs : List Int} (h : Site w S v rs) : w.cell? ⟨S, 13, none⟩ = some v := by
  obtain ⟨arr, hg, _, h13⟩ := h.block
  simp [World.cell?, hg, h13]

theorem Site.later {w w1 : World} {S : Nat} {v : Value} {rs : List Int} (h : Site w S v rs) (hb : Below w.heap.size w w1) : Site w1 S v rs := by
  refine ⟨?_, ?_⟩
  · obtain ⟨arr, hg, hs, h13⟩ := h.block
    exact ⟨arr, by rw [hb.block S h.lt]; exact hg, hs, h13⟩
  · obtain ⟨hl, h0 | ⟨g, cap, cur, hv, hbg, hg, h1, h2, h3, h4⟩⟩ := h.own
    · exact ⟨hl, .inl h0⟩
    · exact ⟨hl, .inr ⟨g, cap, cur, hv, hbg, by rw [hb.block g (Array.getElem?_eq_some_iff.1 hg).1]; exact hg, h1, h2, h3, h4⟩⟩

end Go.Proofs.Qxb6612755a
