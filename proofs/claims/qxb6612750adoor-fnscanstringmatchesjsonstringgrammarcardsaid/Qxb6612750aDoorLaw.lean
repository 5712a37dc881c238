/-
  The law FnScanStringMatchesJSONStringGrammar, walked out of its callees' contracts.
-/
import Derived.Test.Qxb6612750aDoorRest
import Derived.Laws.CopyOwn
import Derived.Deep.OwnRows
import Derived.OpenShut
namespace Go.Proofs.Qxb6612750aDoor
open Go.RowKit

theorem ret2_same {R : Nat × Bool} : Ending.returned (.tuple #[.int .i64 (R.1 : Nat), .bool R.2]) = .returned (.tuple #[.int .i64 (R.1 : Nat), .bool R.2]) := rfl

set_option maxHeartbeats 400000 in
theorem scan_any (b n i : Nat) (B : Nat → Nat) (w : World) (R : Nat × Bool) (hR : Hid (Plain.S (fun i => ((B i : Nat) : Int)) n (i + 1) = R)) (hB : ∀ i, B i < 256) (hn : n ≤ 1048576) (hi : i < n) (hE : Env b n B w w) :
    Calls Tryd.prog 9 #[.slice (some ⟨b, 0, none⟩) n n, .int .i64 i] w fun e w' => e = .returned (.tuple #[.int .i64 (R.1 : Nat), .bool R.2]) ∧ Below w.heap.size w w' := by
  have hX := rest_any b n (i + 1) B w R hR hB hn (by omega) hE
  rw [show (((i + 1 : Nat)) : Int) = (i : Int) + 1 by omega] at hX
  go_enter Tryd.func9, Tryd.ntmps9
  go_wp2_with (first | (go_at_call 11; refine hX.mono ?_; rintro e w2 ⟨⟨r, rfl⟩, hb⟩))
  go_ret2
  exact ⟨rfl, by assumption⟩

set_option maxHeartbeats 400000 in
theorem zscan_any (b n i : Nat) (B : Nat → Nat) (w : World) (R : Nat × Bool) (hR : Hid (Plain.S (fun i => ((B i : Nat) : Int)) n (i + 1) = R)) (hB : ∀ i, B i < 256) (hn : n ≤ 1048576) (hi : i < n) (hE : Env b n B w w) :
    Calls Tryd.prog 6 #[.slice (some ⟨b, 0, none⟩) n n, .int .i64 i] w fun e w' => e = .returned (.tuple #[.int .i64 (R.1 : Nat), .bool R.2]) ∧ Below w.heap.size w w' := by
  have hX := scan_any b n i B w R hR hB hn hi hE
  go_enter Tryd.func6, Tryd.ntmps6
  go_wp2_with (first | (go_at_call 9; refine hX.mono ?_; rintro e w2 ⟨rfl, hb⟩))
  go_ret2
  exact ⟨rfl, by assumption⟩

/-- A slice of integers that came in. -/
def IsRow (k : IntKind) (w : World) (a : Option Addr) (len cap : Nat) (zs : List Int) : Prop :=
  (a = none ∧ len = 0 ∧ cap = 0 ∧ zs = []) ∨
  ∃ x, a = some x ∧ len ≤ cap ∧ cap ≤ maxLen ∧ zs.length = cap ∧ (∀ i, i < zs.length → w.cell? (x.add i) = some (.int k (zs.getD i 0))) ∧ ∀ n ∈ zs, (Lit.int k n).wf = true

theorem info5 : (Tryd.prog.info? 5).map (fun i => (i.zero, i.size, i.bytes)) = some (some (.int .u8 0), 1, 1) := by kernel_rfl
theorem size5 : (Tryd.prog.info? 5).map (·.size) = some 1 := by kernel_rfl

/-- The early ways out. -/
theorem walk_out (a : Option Addr) (len cap : Nat) (i : Int) (w : World) (hl : len ≤ 9223372036854775807) (h : 1048576 < len ∨ i < 0 ∨ (len : Int) ≤ i) :
    Calls Tryd.prog 3 #[.slice a len cap, .int .i64 i] w fun e w' => e = .returned (.bool true) ∧ Below w.heap.size w w' := by
  by_cases h1 : 1048576 < len
  · go_enter Tryd.func3, Tryd.ntmps3
    go_wp2
    go_ret
    exact ⟨rfl, Below.refl _ _⟩
  · by_cases h2 : i < 0
    · go_enter Tryd.func3, Tryd.ntmps3
      go_wp2
      go_ret
      exact ⟨rfl, Below.refl _ _⟩
    · have h3 : (len : Int) ≤ i := by omega
      go_enter Tryd.func3, Tryd.ntmps3
      go_wp2
      go_ret
      exact ⟨rfl, Below.refl _ _⟩

theorem hide {p : Prop} (h : p) : Hid p := h
theorem unhide {p : Prop} (h : Hid p) : p := h

theorem made_list (z : Value) (n : Nat) : madeCells #[z] n = (List.replicate n z).toArray := by
  rw [← toList_madeCells_one z n]

theorem heap_made (w : World) (z : Value) (n : Nat) (t : TypeId) : (w.alloc (.cells (madeCells #[z] n) t)).heap[w.heap.size]? = some (.cells (List.replicate n z).toArray t (0, 0)) := by
  rw [← made_list]; exact Deep.blk_alloc_new _ _

theorem cell_of_heap {w : World} {g : Nat} {t : TypeId} {arr : Array Value} {fr : Nat × Nat} (h : w.heap[g]? = some (.cells arr t fr)) (i : Nat) : w.cell? ⟨g, i, none⟩ = arr[i]? := by
  simp [World.cell?, h]

/-- 'copy(zzc, data)' behind 'zzc := make([]byte, len(data))': a row that holds data's own bytes; of what was there nothing has turned. -/
theorem copied (x : Addr) (len cap : Nat) (B : Nat → Nat) (w : World) (hcell : ∀ i, i < len → w.cell? (x.add i) = some (.int .u8 (B i))) :
    ∃ w1, (Builtin.copy_ #[22, 22] 3 #[.slice (some ⟨w.heap.size, 0, none⟩) len len, .slice (some x) len cap]).run Tryd.prog (w.alloc (.cells (madeCells #[.int .u8 0] len) 5)) = .ok (.int .i64 len) w1
      ∧ Hid (Below w.heap.size w w1) ∧ Hid (∀ i, i < len → w1.cell? ⟨w.heap.size, i, none⟩ = some (.int .u8 (B i))) := by
  have hb0 : Below w.heap.size w (w.alloc (.cells (madeCells #[.int .u8 0] len) 5)) := (Below.refl _ _).alloc (Nat.le_refl _) _
  obtain ⟨cs, hcs⟩ : ∃ cs, cs = (List.range len).map fun i => Value.int .u8 (B i) := ⟨_, rfl⟩
  have hlen : cs.length = len := by rw [hcs]; simp
  have hat : ∀ j v, cs[j]? = some v → j < len ∧ v = Value.int .u8 (B j) := fun j v hj => by
    rw [hcs] at hj
    have hjl : j < len := by have := (List.getElem?_eq_some_iff.1 hj).1; simpa using this
    simp [hjl] at hj
    exact ⟨hjl, hj.symm⟩
  have hrun := run_copy_row (P := Tryd.prog) (w.alloc (.cells (madeCells #[.int .u8 0] len) 5)) 22 22 3 5 w.heap.size 0 len len x len cap (List.replicate len (.int .u8 0)).toArray 5 cs Tryd.underlying22 size5 (heap_made w _ len 5) (by rw [hlen]; simp)
    (fun j v hj => by obtain ⟨hjl, rfl⟩ := hat j v hj; exact cell_later hb0 (hcell j hjl)) (by simp [hlen]) (by rw [hcs]; simp [Value.oneCell'])
  rw [show goInt (cs.length : Nat) = Value.int .i64 (len : Nat) by rw [hlen]; rfl] at hrun
  refine ⟨_, hrun, below_setRow hb0 (Nat.le_refl _) _, fun i hi => ?_⟩
  rw [cell_of_heap (setRow_heap _ w.heap.size _ _ 5 _ (heap_made w _ len 5))]
  simp [hcs, hi]

set_option maxHeartbeats 1000000 in
theorem walk_in (x : Addr) (len cap i : Nat) (B : Nat → Nat) (w : World) (hB : ∀ i, B i < 256) (hl : len ≤ 1048576) (hi : i < len) (hcell : ∀ i, i < len → w.cell? (x.add i) = some (.int .u8 (B i))) (hT : TabAt 1 Lib.deBruijn64tab w) :
    Calls Tryd.prog 3 #[.slice (some x) len cap, .int .i64 i] w fun e w' => e = .returned (.bool true) ∧ Below w.heap.size w w' := by
  obtain ⟨R, hR⟩ : ∃ R, Hid (Plain.S (fun i => ((B i : Nat) : Int)) len (i + 1) = R) := ⟨_, rfl⟩
  have hmk := run_make_row' (P := Tryd.prog) 22 5 (.int .u8 0) 1 Tryd.underlying22 info5 rfl .i64 .i64 len (by omega) (by omega)
  have hne := fun wx => run_neq_slice_nil_any (P := Tryd.prog) wx 22 5 (some x) len cap 0 0 Tryd.underlying22
  obtain ⟨w1, hcp, HB1, HC1⟩ := copied x len cap B w hcell
  have hE : Hid (Env w.heap.size len B w1 w1) := Env.mk (Below.refl _ _) HC1.out (fun j hj => cell_later HB1.out (hT j hj))
  go_enter Tryd.func3, Tryd.ntmps3
  go_wp2_with (first | (go_at_call 5; go_in))
  refine (zscan_any w.heap.size len i B w1 R hR hB hl hi hE.out).mono ?_
  rintro e w2 ⟨rfl, hb2⟩
  have HB2 := hide hb2
  have hX := model_any w.heap.size len i B w2 R hR hl hi (fun j hj => cell_later hb2 (HC1.out j hj))
  clear hb2
  go_wp2_with (first | (go_at_call 7; refine hX.mono ?_; rintro e w3 ⟨rfl, rfl⟩))
  go_ret
  exact ⟨rfl, HB1.out.trans (HB2.out.mono HB1.out.size)⟩

theorem byte_of {zs : List Int} (h : ∀ n ∈ zs, (Lit.int .u8 n).wf = true) (i : Nat) : 0 ≤ zs.getD i 0 ∧ zs.getD i 0 ≤ 255 := by
  by_cases hi : i < zs.length
  · have := bounds_u8 (h zs[i] (List.getElem_mem hi))
    simpa [List.getD_eq_getElem?_getD, hi] using this
  · simp [List.getD_eq_getElem?_getD, List.getElem?_eq_none (Nat.le_of_not_lt hi)]

/-- THE WALK: whatever came in. -/
theorem walk (a : Option Addr) (len cap : Nat) (zs : List Int) (i : Int) (w : World) (w0 : IsRow .u8 w a len cap zs) (hT : TabAt 1 Lib.deBruijn64tab w) :
    Calls Tryd.prog 3 #[.slice a len cap, .int .i64 i] w fun e w' => e = .returned (.bool true) ∧ Below w.heap.size w w' := by
  by_cases hout : 1048576 < len ∨ i < 0 ∨ (len : Int) ≤ i
  · refine walk_out a len cap i w ?_ hout
    rcases w0 with ⟨_, rfl, _, _⟩ | ⟨x, _, hlc, hm, hz, hcell, hwz⟩
    · omega
    · unfold maxLen at hm; omega
  · rcases w0 with ⟨_, rfl, _, _⟩ | ⟨x, rfl, hlc, hm, hz, hcell, hwz⟩
    · omega
    · obtain ⟨k, rfl⟩ : ∃ k : Nat, i = (k : Int) := ⟨i.toNat, by omega⟩
      refine walk_in x len cap k (fun j => (zs.getD j 0).toNat) w (fun j => ?_) (by omega) (by omega) (fun j hj => ?_) hT
      · have := byte_of hwz j; omega
      · have := byte_of hwz j
        rw [hcell j (by omega)]
        congr 2
        omega

end Go.Proofs.Qxb6612750aDoor
