/-
  A slice of numbers that came in, and its copy.
-/
import Derived.Test.Qxb6612755aNew
namespace Go.Proofs.Qxb6612755a
open Go.RowKit

/-- WHAT THE WALK IS TOLD OF A SLICE OF INTEGERS THAT CAME IN. -/
def IsRow (k : IntKind) (w : World) (a : Option Addr) (len cap : Nat) (zs : List Int) : Prop :=
  (a = none ∧ len = 0 ∧ cap = 0 ∧ zs = []) ∨
  ∃ x, a = some x ∧ len ≤ cap ∧ cap ≤ maxLen ∧ zs.length = cap ∧ (∀ i, i < zs.length → w.cell? (x.add i) = some (.int k (zs.getD i 0))) ∧ ∀ n ∈ zs, (Lit.int k n).wf = true

theorem add_off (b o i : Nat) : (⟨b, o, none⟩ : Addr).add i = ⟨b, o + i, none⟩ := by
  by_cases h : i = 0
  · subst h; simp [Addr.add]
  · simp [Addr.add, h]

theorem getD_take (zs : List Int) (len i : Nat) (hi : i < len) : (zs.take len).getD i 0 = zs.getD i 0 := by
  simp [List.getD_eq_getElem?_getD, hi]

theorem row_of {w : World} {a : Option Addr} {len cap : Nat} {zs : List Int} (h : IsRow .u64 w a len cap zs) : Row w (.slice a len cap) (zs.take len) ∧ (zs.take len).length = len := by
  rcases h with ⟨rfl, rfl, rfl, rfl⟩ | ⟨x, rfl, hlc, hm, hz, hcell, hw⟩
  · exact ⟨.inl ⟨rfl, _, _, rfl⟩, rfl⟩
  · have hlen : (zs.take len).length = len := by simp; omega
    refine ⟨?_, hlen⟩
    by_cases h0 : len = 0
    · subst h0; exact .inl ⟨by simp, _, _, rfl⟩
    · obtain ⟨b, off, spot⟩ := x
      have hspot : spot = none := by simpa [Addr.add] using World.cell?_spot (hcell 0 (by omega))
      subst hspot
      refine .inr ⟨b, off, cap, by rw [hlen], fun i hi => ?_⟩
      rw [hlen] at hi
      rw [getD_take zs len i hi]
      rw [← add_off]
      exact hcell i (by omega)

theorem made_list (z : Value) (n : Nat) : madeCells #[z] n = (List.replicate n z).toArray := by
  rw [← toList_madeCells_one z n]

theorem heap_made (w : World) (z : Value) (n : Nat) (t : TypeId) : (w.alloc (.cells (madeCells #[z] n) t)).heap[w.heap.size]? = some (.cells (List.replicate n z).toArray t (0, 0)) := by
  rw [← made_list]; exact Deep.blk_alloc_new _ _

theorem cell_of_heap {w : World} {g : Nat} {t : TypeId} {arr : Array Value} {fr : Nat × Nat} (h : w.heap[g]? = some (.cells arr t fr)) (i : Nat) : w.cell? ⟨g, i, none⟩ = arr[i]? := by
  simp [World.cell?, h]

theorem size31 : (Try.prog.info? 31).map (·.size) = some 1 := by kernel_rfl

/-- 'copy(zzc, requests)' behind 'zzc := make([]uint64, len(requests))'. -/
theorem copied (a : Option Addr) (cap : Nat) (L : List Int) (w : World) (h : Row w (.slice a L.length cap) L) (ha : a ≠ none) :
    ∃ w1, (Builtin.copy_ #[29, 29] 3 #[.slice (some ⟨w.heap.size, 0, none⟩) L.length L.length, .slice a L.length cap]).run Try.prog (w.alloc (.cells (madeCells #[.int .u64 0] L.length) 31)) = .ok (.int .i64 L.length) w1
      ∧ Hid (Below w.heap.size w w1) ∧ Hid (Row w1 (.slice (some ⟨w.heap.size, 0, none⟩) L.length L.length) L) := by
  have hb0 : Below w.heap.size w (w.alloc (.cells (madeCells #[.int .u64 0] L.length) 31)) := (Below.refl _ _).alloc (Nat.le_refl _) _
  obtain ⟨x, rfl⟩ := Option.ne_none_iff_exists'.1 ha
  have hat : ∀ j v, (u64s L)[j]? = some v → j < L.length ∧ v = Value.int .u64 (L.getD j 0) := fun j v hj => by
    have hjl : j < L.length := by have := (List.getElem?_eq_some_iff.1 hj).1; simpa [u64s] using this
    refine ⟨hjl, ?_⟩
    simp [u64s, hjl] at hj
    rw [← hj]; simp [List.getD_eq_getElem?_getD, hjl]
  have hsrc : ∀ j v, (u64s L)[j]? = some v → (w.alloc (.cells (madeCells #[.int .u64 0] L.length) 31)).cell? (x.add j) = some v := fun j v hj => by
    obtain ⟨hjl, rfl⟩ := hat j v hj
    rcases h with ⟨rfl, _⟩ | ⟨b, o, c, he, hc⟩
    · simp at hjl
    · simp only [Value.slice.injEq, Option.some.injEq, true_and] at he
      obtain ⟨rfl, rfl⟩ := he
      exact cell_later hb0 (by rw [add_off]; exact hc j hjl)
  have hlen : (u64s L).length = L.length := by simp [u64s]
  have hrun := run_copy_row (P := Try.prog) (w.alloc (.cells (madeCells #[.int .u64 0] L.length) 31)) 29 29 3 31 w.heap.size 0 L.length L.length x L.length cap (List.replicate L.length (.int .u64 0)).toArray 31 (u64s L) Try.underlying29 size31 (heap_made w _ _ 31) (by rw [hlen]; simp)
    hsrc (by simp [hlen]) (by simp [u64s, Value.oneCell'])
  rw [show goInt ((u64s L).length : Nat) = Value.int .i64 (L.length : Nat) by rw [hlen]; rfl] at hrun
  refine ⟨_, hrun, below_setRow hb0 (Nat.le_refl _) _, .inr ⟨_, _, _, rfl, fun i hi => ?_⟩⟩
  rw [cell_of_heap (setRow_heap _ w.heap.size _ _ 31 _ (heap_made w _ _ 31))]
  simp [u64s, hi, List.getD_eq_getElem?_getD]

/-- Strictly rising. -/
def Rising (L : List Int) : Prop := ∀ i, i + 1 < L.length → L.getD i 0 < L.getD (i + 1) 0

end Go.Proofs.Qxb6612755a
