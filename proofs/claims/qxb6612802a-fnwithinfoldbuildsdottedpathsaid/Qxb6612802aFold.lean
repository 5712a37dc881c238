/-
  FnWithinFoldBuildsDottedPath, walked.
-/
import Derived.Test.Qxb6612802aWithin
import Derived.Lib.AppendStr
import Derived.Lib.Builder
import Derived.Laws.BytesArg
import Derived.Deep.CutBlock
import Derived.Deep.CutRange
import Derived.Deep.DeepCutAuto
import Derived.Deep.LoopGhost
import Derived.Deep.RegionWith
import Derived.Deep.QuietTactic
import Derived.BigQuiet
import Derived.Deep.Light
namespace Go.Proofs.Qxb6612802a
open Go.RowKit

/-- The slice value (a, n, c) holds the strings L. -/
def Held (w : World) (a : Option Addr) (L : List ByteArray) : Prop :=
  L = [] ∨ ∃ b o, a = some ⟨b, o, none⟩ ∧ ∀ i, i < L.length → w.cell? ⟨b, o + i, none⟩ = some (.string (L.getD i ByteArray.empty))

theorem Held.at {w : World} {a : Option Addr} {L : List ByteArray} (h : Held w a L) {k : Nat} (hk : k < L.length) : ∃ b o, a = some ⟨b, o, none⟩ ∧ ∀ i, i < L.length → w.cell? ⟨b, o + i, none⟩ = some (.string (L.getD i ByteArray.empty)) := by
  rcases h with rfl | h
  · simp at hk
  · exact h

theorem Held.later {w w1 : World} {a : Option Addr} {L : List ByteArray} (h : Held w a L) (hb : Below w.heap.size w w1) : Held w1 a L := by
  rcases h with rfl | ⟨b, o, ha, hc⟩
  · exact .inl rfl
  · exact .inr ⟨b, o, ha, fun i hi => cell_later hb (hc i hi)⟩

/-- The steps as lists of bytes. -/
def bytes (L : List ByteArray) : List (List UInt8) := L.map (·.data.toList)

theorem bytes_length (L : List ByteArray) : (bytes L).length = L.length := by simp [bytes]
theorem bytes_at (L : List ByteArray) (k : Nat) (hk : k < L.length) : (bytes L).getD k [] = (L.getD k ByteArray.empty).data.toList := by
  simp [bytes, List.getD_eq_getElem?_getD, hk]

def SomeBool (e : Ending) : Prop := ∃ b, e = .returned (.bool b)

set_option maxHeartbeats 1000000 in
theorem zzbytes_any (a : Option Addr) (c : Nat) (L : List ByteArray) (m : ByteArray) (w : World) (h : Held w a L) (hL : L.length ≤ 9223372036854775807) (hm : m.size ≤ 9223372036854775807) :
    Calls Try.prog 9 #[.slice a L.length c, .string m] w fun e w' => SomeBool e ∧ w' = w := by
  have HH := hide h
  clear h
  go_enter Try.func9, Try.ntmps9
  go_wp2
  · go_ret
    exact ⟨⟨_, rfl⟩, rfl⟩
  · go_loop [5, 6] (fun t i => ∃ (k : Nat) (z : Int), k ≤ L.length ∧ i = .int .i64 k ∧ t = .int .i64 z ∧ 0 ≤ z ∧ z ≤ 1048576) (fun _ i => L.length - (intOf i).toNat)
    case atStart => exact ⟨0, L.length, by omega, rfl, rfl, by omega, by omega⟩
    case round =>
      obtain ⟨k, z, hk, rfl, rfl, hz0, hz1⟩ := hrel
      by_cases hlt : k < L.length
      · obtain ⟨b, o, rfl, hc⟩ := HH.out.at hlt
        obtain ⟨s, hs⟩ : ∃ s, Hid (L.getD k ByteArray.empty = s) := ⟨_, rfl⟩
        have hck : w.cell? ⟨b, o + k, none⟩ = some (.string s) := by rw [← hs.out]; exact hc k hlt
        clear hc
        go_wp2
        · go_ret
          exact ⟨⟨_, rfl⟩, rfl⟩
        · go_ret
          exact ⟨⟨_, rfl⟩, rfl⟩
        · go_round
          case rel => exact ⟨k + 1, _, by omega, by go_num, rfl, by omega, by omega⟩
          case measure => simp [intOf]; omega
      · go_wp2
        all_goals
          go_ret
          exact ⟨⟨_, rfl⟩, rfl⟩

set_option maxHeartbeats 1000000 in
theorem fold_long (a : Option Addr) (c : Nat) (L : List ByteArray) (m : ByteArray) (w : World) (h : Held w a L) (hL : L.length ≤ 9223372036854775807) (hm : m.size ≤ 9223372036854775807) (hlong : 4096 < L.length ∨ 1048576 < m.size) :
    Calls Try.prog 5 #[.slice a L.length c, .string m] w fun e w' => e = .returned (.bool true) ∧ Below w.heap.size w w' := by
  have hX := zzbytes_any a c L m w h hL hm
  clear h
  go_enter Try.func5, Try.ntmps5
  go_wp2_with fail
  refine hX.mono ?_
  rintro e w' ⟨⟨b, rfl⟩, rfl⟩
  cases b with
  | false =>
    go_wp2_with fail
    go_ret
    exact ⟨rfl, Below.refl _ _⟩
  | true =>
    by_cases h1 : 4096 < L.length
    · go_wp2_with fail
      go_ret
      exact ⟨rfl, Below.refl _ _⟩
    · have h2 : 1048576 < m.size := by omega
      go_wp2_with fail
      go_ret
      exact ⟨rfl, Below.refl _ _⟩

theorem info5 : (Try.prog.info? 5).map (fun i => (i.zero, i.size, i.bytes)) = some (some (.int .u8 0), 1, 1) := by kernel_rfl

def u8s (l : List UInt8) : List Value := l.map fun b => Value.int .u8 b.toNat

theorem tot_step {L : List ByteArray} {k T M : Nat} {s : ByteArray} (hk : k < L.length) (hs : L.getD k ByteArray.empty = s) (h : M + Plain.tot ((bytes L).take k) = T) : M + Plain.tot ((bytes L).take (k + 1)) = T + (16 + s.size) := by
  rw [Plain.tot_take_succ _ k (by rw [bytes_length]; exact hk), bytes_at L k hk, hs, ← h]
  have : s.data.toList.length = s.size := by simp
  omega

/-- The slice v, in memory of the call's own, holds the first k pieces of what is wanted. -/
def Wanted (M : List (List UInt8)) (B k : Nat) (v : Value) (w : World) : Prop := w.ownsRow B 5 1 v (Plain.pre M k).length (u8s (Plain.pre M k))

theorem size_le {L : List ByteArray} {k T M : Nat} {s : ByteArray} (hk : k < L.length) (hs : L.getD k ByteArray.empty = s) (h : M + Plain.tot (bytes L) = T) (hT : T ≤ 1048576) : s.size ≤ 1048576 := by
  have h1 := Plain.tot_take_succ (bytes L) k (by rw [bytes_length]; exact hk)
  have h2 := Plain.tot_take_le (bytes L) (k + 1)
  rw [bytes_at L k hk, hs] at h1
  have : s.data.toList.length = s.size := by simp
  omega

theorem Wanted.parts {L : List ByteArray} {B k T M : Nat} {v : Value} {w : World} (h : Wanted (bytes L) B k v w) (hk : k ≤ L.length) (hT0 : M + Plain.tot (bytes L) = T) (hT : T ≤ 1048576) :
    ∃ n xs, Hid (n = (Plain.pre (bytes L) k).length) ∧ n ≤ 1048576 ∧ Hid (xs = u8s (Plain.pre (bytes L) k)) ∧ w.ownsRow B 5 1 v n xs := by
  have h1 := Plain.pre_length (bytes L) k (by rw [bytes_length]; exact hk)
  have h2 := Plain.tot_take_le (bytes L) k
  exact ⟨_, _, rfl, by omega, rfl, h⟩

theorem size_pos {t : ByteArray} (h : ((t.size : Int) == 0) = false) : 0 < t.size := by
  have : ¬ (t.size : Int) = 0 := by simpa using h
  omega

theorem dot_skip {L : List ByteArray} {q : Nat} {t : ByteArray} (hq : q < L.length) (ht : L.getD q ByteArray.empty = t) (h : ((t.size : Int) == 0) = true) : Plain.dot ((bytes L).drop q) = Plain.dot ((bytes L).drop (q + 1)) := by
  apply Plain.dot_empty _ _ (by rw [bytes_length]; exact hq)
  rw [bytes_at L q hq, ht]
  have h0 : (t.size : Int) = 0 := of_decide_eq_true h
  exact List.eq_nil_of_length_eq_zero (by have : t.data.toList.length = t.size := by simp
                                          omega)

theorem dot_bracket {L : List ByteArray} {q : Nat} {t : ByteArray} (hq : q < L.length) (ht : L.getD q ByteArray.empty = t) (hp : 0 < t.size) (h : ((t[0].toNat : Int) == 91) = true) : Plain.dot ((bytes L).drop q) = [] := by
  obtain ⟨r, hr⟩ := list_head t hp
  rw [Plain.dot_some (bytes L) q (by rw [bytes_length]; exact hq) t[0] r (by rw [bytes_at L q hq, ht]; exact hr), if_pos (show t[0] = 91 from byte_eq (n := 91) (by decide) h)]

theorem dot_plain {L : List ByteArray} {q : Nat} {t : ByteArray} (hq : q < L.length) (ht : L.getD q ByteArray.empty = t) (hp : 0 < t.size) (h : ((t[0].toNat : Int) == 91) = false) : Plain.dot ((bytes L).drop q) = [46] := by
  obtain ⟨r, hr⟩ := list_head t hp
  rw [Plain.dot_some (bytes L) q (by rw [bytes_length]; exact hq) t[0] r (by rw [bytes_at L q hq, ht]; exact hr), if_neg (show ¬ t[0] = 91 from byte_ne (n := 91) (by decide) h)]

theorem wanted_none {L : List ByteArray} {B k n : Nat} {xs : List Value} {v : Value} {w : World} {s : ByteArray} (hk : k < L.length) (hs : L.getD k ByteArray.empty = s) (hn : n = (Plain.pre (bytes L) k).length) (hx : xs = u8s (Plain.pre (bytes L) k))
    (h : w.ownsRow B 5 1 v (n + s.size) (xs ++ Lib.strCells s)) (hd : Plain.dot ((bytes L).drop (k + 1)) = []) : Wanted (bytes L) B (k + 1) v w := by
  have e : Plain.pre (bytes L) (k + 1) = Plain.pre (bytes L) k ++ s.data.toList := by simp only [Plain.pre, hd, List.append_nil]; rw [bytes_at L k hk, hs]
  have el : s.data.toList.length = s.size := by simp
  unfold Wanted
  rw [e, List.length_append, el, ← hn]
  simp only [u8s, List.map_append]
  subst hx
  exact h

theorem wanted_dot {L : List ByteArray} {B k n : Nat} {xs : List Value} {v : Value} {w : World} {s : ByteArray} (hk : k < L.length) (hs : L.getD k ByteArray.empty = s) (hn : n = (Plain.pre (bytes L) k).length) (hx : xs = u8s (Plain.pre (bytes L) k))
    (h : w.ownsRow B 5 1 v (n + s.size + 1) (xs ++ (Lib.strCells s ++ [.int .u8 46]))) (hd : Plain.dot ((bytes L).drop (k + 1)) = [46]) : Wanted (bytes L) B (k + 1) v w := by
  have e : Plain.pre (bytes L) (k + 1) = Plain.pre (bytes L) k ++ s.data.toList ++ [46] := by simp only [Plain.pre, hd]; rw [bytes_at L k hk, hs, List.append_assoc]
  have el : s.data.toList.length = s.size := by simp
  unfold Wanted
  rw [e, List.length_append, List.length_append, el, ← hn]
  simp only [u8s, List.map_append, List.append_assoc]
  subst hx
  exact h

/-- A fault in block F: its path reads p, its message m. -/
def Fault (F : Nat) (p : List UInt8) (m : ByteArray) (w : World) : Prop :=
  ∃ P : ByteArray, P.data.toList = p ∧ w.cell? ⟨F, 0, none⟩ = some (.string P) ∧ w.cell? ⟨F, 1, none⟩ = some (.string m) ∧ w.frozen? ⟨F, 0, none⟩ = false

theorem fault_new (w : World) (m : ByteArray) (M : List (List UInt8)) (k : Nat) (hk : M.length ≤ k) : Fault w.heap.size (Plain.path (M.drop k)) m (w.alloc (.cells #[.string ⟨#[]⟩, .string m] 34)) := by
  rw [List.drop_eq_nil_of_le hk]
  exact ⟨⟨#[]⟩, rfl, by simp, by simp, by simp⟩

theorem path_size {L : List ByteArray} {k T M : Nat} {P : ByteArray} (hP : P.data.toList = Plain.path ((bytes L).drop k)) (h : M + Plain.tot (bytes L) = T) (hT : T ≤ 1048576) : P.size ≤ 1048576 := by
  have h1 := Plain.path_length ((bytes L).drop k)
  have h2 := Plain.tot_drop_le (bytes L) k
  have h3 : P.data.toList.length = P.size := by simp
  rw [← hP] at h1
  omega

theorem fault_step {L : List ByteArray} {k F : Nat} {s P Q m : ByteArray} {w : World} (h1 : 1 ≤ k) (hk : k ≤ L.length) (hs : L.getD (k - 1) ByteArray.empty = s) (hP : P.data.toList = Plain.path ((bytes L).drop k))
    (c0 : w.cell? ⟨F, 0, none⟩ = some (.string P)) (c1 : w.cell? ⟨F, 1, none⟩ = some (.string m)) (f0 : w.frozen? ⟨F, 0, none⟩ = false) (hQ : Q.data.toList = Plain.join s.data.toList P.data.toList) :
    Fault F (Plain.path ((bytes L).drop (k - 1))) m (w.setCell ⟨F, 0, none⟩ (.string Q)) := by
  refine ⟨Q, ?_, World.cell?_setCell_same _ _ _ c0, ?_, by simpa using f0⟩
  · rw [Plain.path_drop (bytes L) (k - 1) (by rw [bytes_length]; omega), bytes_at L (k - 1) (by omega), hs, show k - 1 + 1 = k by omega, ← hP]
    exact hQ
  · rw [World.cell?_setCell_other _ _ _ _ (by simp)]; exact c1

theorem info34 : ∃ j, Try.prog.info? 34 = some j := Option.isSome_iff_exists.1 (by kernel_rfl)

theorem drewN_below {B : Nat} {a w : World} (h : Below B a w) (n : Nat) : Below B a (w.drewN n) := below_drewN h n

/-- 'string(want)': the path itself. -/
theorem want_string {L : List ByteArray} {B : Nat} {v : Value} {w w1 : World} {P : ByteArray} (h : Wanted (bytes L) B L.length v w) (hb : Below w.heap.size w w1) (hP : P.data.toList = Plain.path (bytes L)) :
    ∀ n, (convert 22 9 v).run Try.prog (w1.drewN n) = .ok (.string P) (w1.drewN n) := by
  intro n
  unfold Wanted at h
  rw [show Plain.pre (bytes L) L.length = P.data.toList by rw [hP, Plain.path_eq, ← Plain.pre_all, bytes_length]] at h
  have hsame : ∀ Q : ByteArray, Q.data.toList = P.data.toList → Q = P := fun Q e => by
    cases Q; cases P; simp at e; simp [e]
  rcases h.2 with ⟨rfl, h0⟩ | ⟨g, cap, cur, rfl, _⟩
  · rw [run_convert_bytes_nil (P := Try.prog) _ 22 5 Try.underlying22 Try.underlying5 0 0 9 Try.underlying9]
    rw [hsame ByteArray.empty (by rw [List.eq_nil_of_length_eq_zero h0]; rfl)]
  · rw [run_convert_bytes_arg (P := Try.prog) _ 22 5 Try.underlying22 Try.underlying5 g 0 _ cap (P.data.toList.map fun b => (b.toNat : Int)) (by simp) (fun i hi => ?_) 9 Try.underlying9]
    · rw [hsame (strOfNums _) ?_]
      rw [strOfNums_data, List.map_map]
      conv => rhs; rw [← List.map_id P.data.toList]
      apply List.map_congr_left
      intro b _
      simp
    · show w1.cell? _ = _
      rw [Nat.zero_add]
      have := h.cellAt i (by omega)
      refine cell_later hb (this.trans ?_)
      simp [u8s, List.getD_eq_getElem?_getD, List.getElem?_eq_getElem hi]

set_option maxHeartbeats 4000000 in
set_option maxRecDepth 100000 in
theorem fold_main (a : Option Addr) (c : Nat) (L : List ByteArray) (m : ByteArray) (w : World) (h : Held w a L) (hL : L.length ≤ 4096) (hm : m.size ≤ 1048576) :
    Calls Try.prog 5 #[.slice a L.length c, .string m] w fun e w' => e = .returned (.bool true) ∧ Below w.heap.size w w' := by
  have hX := zzbytes_any a c L m w h (by omega) (by omega)
  have HH := hide h
  clear h
  obtain ⟨i0, hi, hz0, hz1, hz2⟩ := info_parts info5
  go_enter Try.func5, Try.ntmps5
  go_wp2_with fail
  refine hX.mono ?_
  rintro e w' ⟨⟨b, rfl⟩, rfl⟩
  clear hX
  cases b with
  | false =>
    go_wp2_with fail
    go_ret
    exact ⟨rfl, Below.refl _ _⟩
  | true =>
    rename World => w
    go_upto_block 0 with fail
    go_cut [5, 6] (fun t _ wx => ∃ T : Nat, t = .int .i64 T ∧ T ≤ 1048576 ∧ Hid (m.size + Plain.tot (bytes L) = T) ∧ wx = w)
    case first =>
      go_wp2_with fail
      go_loopg [5, 6] (L.length + 1) (fun g t i wr => ∃ k T : Nat, k ≤ L.length ∧ L.length - k < g ∧ i = .int .i64 k ∧ t = .int .i64 T ∧ T ≤ 1048576 ∧ Hid (m.size + Plain.tot ((bytes L).take k) = T) ∧ wr = w)
      case atStart => exact ⟨0, m.size, by omega, by omega, rfl, rfl, hm, hide (by simp [Plain.tot]), rfl⟩
      case round =>
        obtain ⟨k, T, hk, hg, rfl, rfl, hT, HT, rfl⟩ := hrel
        by_cases hlt : k < L.length
        · obtain ⟨b, o, rfl, hc⟩ := HH.out.at hlt
          obtain ⟨s, hs⟩ : ∃ s, Hid (L.getD k ByteArray.empty = s) := ⟨_, rfl⟩
          have hck : wr.cell? ⟨b, o + k, none⟩ = some (.string s) := by rw [← hs.out]; exact hc k hlt
          clear hc
          by_cases hbig : 1048560 < s.size + T
          · go_wp2_with fail
            go_ret
            exact ⟨rfl, Below.refl _ _⟩
          · go_wp2_with fail
            go_roundg (gk - 1)
            case measure => omega
            case rel => exact ⟨k + 1, T + (16 + s.size), by omega, by omega, by go_num, by go_num, by omega, hide (tot_step hlt hs.out HT.out), rfl⟩
        · go_wp2_with fail
          go_meet
          case rel => exact ⟨T, rfl, hT, hide (by have := HT.out; rwa [List.take_of_length_le (by rw [bytes_length]; omega)] at this), rfl⟩
    case rest =>
      obtain ⟨T, rfl, hT, HT, rfl⟩ := hcut
      rename World => w
      go_upto_block 2 with (first | (at_make; refine wpList_make_own _ rfl _ _ 22 rfl w.heap.size 5 i0 (.int .u8 0) 1 Try.underlying22 hi hz0 hz1 .i64 .i64 _ T rfl rfl rfl (by rw [hz2]; omega) (by unfold maxLen; omega) (Nat.le_refl _) ?_; intro w1 hown1 hgrow1))
      have HO1 : Hid (Wanted (bytes L) w.heap.size 0 (.slice (some ⟨w.heap.size, 0, none⟩) 0 T) w1) := hown1
      have HB1 : Hid (Below w.heap.size w w1) := (Below.refl _ _).grown hgrow1 (Nat.le_refl _) (fun k hk => by cases hk)
      clear hown1 hgrow1
      go_cut [7, 8, 9] (fun v _ _ wx => Hid (Wanted (bytes L) w.heap.size L.length v wx) ∧ Hid (Below w.heap.size w wx))
      case first =>
        go_wp2_with fail
        go_loopg [7, 8, 9] (L.length + 1) (fun g v i j wr => ∃ k : Nat, k ≤ L.length ∧ L.length - k < g ∧ i = .int .i64 k ∧ Hid (Wanted (bytes L) w.heap.size k v wr) ∧ Hid (Below w.heap.size w wr))
        case atStart => exact ⟨0, by omega, by omega, rfl, HO1, HB1⟩
        case round =>
          obtain ⟨k, hk, hg, rfl, HO, HB⟩ := hrel
          by_cases hlt : k < L.length
          · obtain ⟨b, o, rfl, hc⟩ := HH.out.at hlt
            obtain ⟨s, hs⟩ : ∃ s, Hid (L.getD k ByteArray.empty = s) := ⟨_, rfl⟩
            have hck : wr.cell? ⟨b, o + k, none⟩ = some (.string s) := by rw [← hs.out]; exact cell_later HB.out (hc k hlt)
            have hs1 : s.size ≤ 1048576 := size_le hlt hs.out HT.out hT
            obtain ⟨n, xs, hn, hn1, hxs, hown⟩ := HO.out.parts hk HT.out hT
            have hbs := HB.out.size
            have HC := hide hc
            clear hc
            go_upto_block 4 with (first | (at_builtin; refine Lib.wpList_append_own_string _ rfl _ _ 22 9 rfl w.heap.size 5 i0 Try.underlying22 Try.underlying9 hi hz0 hz1 hz2 _ n xs rfl hown s rfl (by unfold maxLen; omega) (by omega) hbs ?_; intro v3 w3 hown3 hgrow3 hnil3))
            have HO3 := hide hown3
            have HB3 : Hid (Below w.heap.size w w3) := HB.out.grown hgrow3 hbs (fun j hj => (hown.lt j hj).1)
            clear hown3 hgrow3 hnil3 hown hck hbs
            go_cut [9] (fun j wx => ∃ q : Nat, j = .int .i64 q ∧ k + 1 ≤ q ∧ q ≤ L.length ∧ Hid (Plain.dot ((bytes L).drop q) = Plain.dot ((bytes L).drop (k + 1))) ∧ Hid (q < L.length → 0 < (L.getD q ByteArray.empty).size) ∧ wx = w3)
            case first =>
              go_wp2_with fail
              go_loopg [9] (L.length + 1) (fun g j wr => ∃ q : Nat, j = .int .i64 q ∧ k + 1 ≤ q ∧ q ≤ L.length ∧ L.length - q < g ∧ Hid (Plain.dot ((bytes L).drop q) = Plain.dot ((bytes L).drop (k + 1))) ∧ wr = w3)
              case atStart => exact ⟨k + 1, by go_num, by omega, by omega, by omega, rfl, rfl⟩
              case round =>
                clear hg
                obtain ⟨q, rfl, hkq, hq, hg, HD, rfl⟩ := hrel
                by_cases hqn : q < L.length
                · obtain ⟨t, ht⟩ : ∃ t, Hid (L.getD q ByteArray.empty = t) := ⟨_, rfl⟩
                  have hct : wr.cell? ⟨b, o + q, none⟩ = some (.string t) := by rw [← ht.out]; exact cell_later HB3.out (HC.out q hqn)
                  by_cases hz : ((t.size : Int) == 0) = true
                  · go_wp2_with fail
                    go_roundg (gk - 1)
                    case measure => omega
                    case rel => exact ⟨q + 1, by go_num, by omega, by omega, by omega, hide ((dot_skip hqn ht.out hz).symm.trans HD.out), rfl⟩
                  · replace hz : ((t.size : Int) == 0) = false := by simpa using hz
                    go_wp2_with fail
                    go_meet
                    case rel => exact ⟨q, rfl, hkq, hq, HD, hide (fun _ => by rw [ht.out]; exact size_pos hz), rfl⟩
                · go_wp2_with fail
                  go_meet
                  case rel => exact ⟨q, rfl, hkq, hq, HD, hide (fun h => absurd h hqn), rfl⟩
            case rest =>
              obtain ⟨q, rfl, hkq, hq, HD, HE, rfl⟩ := hcut
              rename World => w3
              by_cases hqn : q < L.length
              · obtain ⟨t, ht⟩ : ∃ t, Hid (L.getD q ByteArray.empty = t) := ⟨_, rfl⟩
                have hct : w3.cell? ⟨b, o + q, none⟩ = some (.string t) := by rw [← ht.out]; exact cell_later HB3.out (HC.out q hqn)
                have hpos : 0 < t.size := by have := HE.out hqn; rw [ht.out] at this; exact this
                by_cases hb91 : ((t[0].toNat : Int) == 91) = true
                · have HD2 : Hid (Plain.dot ((bytes L).drop (k + 1)) = []) := hide (HD.out.symm.trans (dot_bracket hqn ht.out hpos hb91))
                  have hne : ((t[0].toNat : Int) != 91) = false := by simpa using hb91
                  clear hb91
                  go_wp2_with fail
                  go_roundg (gk - 1)
                  case measure => omega
                  case rel => exact ⟨k + 1, by omega, by omega, by go_num, hide (wanted_none hlt hs.out hn.out hxs.out HO3.out HD2.out), HB3⟩
                · replace hb91 : ((t[0].toNat : Int) == 91) = false := by simpa using hb91
                  have HD2 : Hid (Plain.dot ((bytes L).drop (k + 1)) = [46]) := hide (HD.out.symm.trans (dot_plain hqn ht.out hpos hb91))
                  have hne : ((t[0].toNat : Int) != 91) = true := by simpa using hb91
                  have hown3 := HO3.out
                  have hbs3 := HB3.out.size
                  clear hb91
                  go_wp2_with (first | (at_builtin; refine wpList_append_own _ rfl _ _ 22 rfl w.heap.size 5 i0 (.int .u8 0) 1 1 Try.underlying22 hi hz0 hz1 hz2 rfl (by decide) _ (n + s.size) (xs ++ Lib.strCells s) rfl (hown3.alloc _) ⟨w3.heap.size, 0, none⟩ 1 1 [.int .u8 46] rfl rfl ?c1 ?c2 ?c3 ?c4 ?c5 ?_))
                  case c1 =>
                    intro j y hj
                    match j, hj with
                    | 0, hj => simp at hj; subst hj; simp [Addr.add]
                  case c2 => intro y hy; simp at hy; subst hy; rfl
                  case c3 => unfold maxLen; omega
                  case c4 => omega
                  case c5 => simp; omega
                  · intro v4 w4 hown4 hgrow4 _
                    have HO4 := hide hown4
                    have HB4 : Hid (Below w.heap.size w w4) := (HB3.out.alloc hbs3 _).grown hgrow4 (by simp; omega) (fun j hj => (hown3.lt j hj).1)
                    clear hown4 hgrow4 hown3
                    go_wp2_with fail
                    go_roundg (gk - 1)
                    case measure => omega
                    case rel => exact ⟨k + 1, by omega, by omega, by go_num, hide (wanted_dot hlt hs.out hn.out hxs.out HO4.out HD2.out), HB4⟩
              · have HD2 : Hid (Plain.dot ((bytes L).drop (k + 1)) = []) := hide (HD.out.symm.trans (Plain.dot_end _ _ (by rw [bytes_length]; omega)))
                go_wp2_with fail
                go_roundg (gk - 1)
                case measure => omega
                case rel => exact ⟨k + 1, by omega, by omega, by go_num, hide (wanted_none hlt hs.out hn.out hxs.out HO3.out HD2.out), HB3⟩
          · obtain rfl : k = L.length := by omega
            go_wp2_with fail
            go_meet
            case rel => exact ⟨HO, HB⟩
      case rest =>
        obtain ⟨HO2, HB2⟩ := hcut
        rename World => w2
        go_wp2_with fail
        refine (newFault_any _ m w2).mono ?_
        rintro e w3 ⟨rfl, rfl⟩
        have HF3 : Hid (Fault w2.heap.size (Plain.path ((bytes L).drop L.length)) m (w2.alloc (.cells #[.string ⟨#[]⟩, .string m] 34))) := hide (fault_new w2 m (bytes L) L.length (by rw [bytes_length]; exact Nat.le_refl _))
        have HX3 : Hid (Below w2.heap.size w2 (w2.alloc (.cells #[.string ⟨#[]⟩, .string m] 34))) := (Below.refl _ _).alloc (Nat.le_refl _) _
        clear HO1 HB1
        go_upto_block 6 with fail
        go_cut [10, 11, 12, 13] (fun f _ _ _ wx => f = .pointer (some ⟨w2.heap.size, 0, none⟩) ∧ Hid (Fault w2.heap.size (Plain.path (bytes L)) m wx) ∧ Hid (Below w2.heap.size w2 wx))
        case first =>
          go_wp2_with fail
          go_loopg [10, 11, 12, 13] (L.length + 1) (fun g f i _ _ wr => ∃ k : Nat, k ≤ L.length ∧ k < g ∧ i = .int .i64 ((k : Int) - 1) ∧ f = .pointer (some ⟨w2.heap.size, 0, none⟩) ∧ Hid (Fault w2.heap.size (Plain.path ((bytes L).drop k)) m wr) ∧ Hid (Below w2.heap.size w2 wr))
          case atStart => exact ⟨L.length, by omega, by omega, rfl, rfl, HF3, HX3⟩
          case round =>
            clear HF3 HX3
            obtain ⟨k, hk, hg, rfl, rfl, HF, HX⟩ := hrel
            by_cases hkp : 1 ≤ k
            · have hlt : k - 1 < L.length := by omega
              obtain ⟨b, o, rfl, hc⟩ := HH.out.at hlt
              obtain ⟨s, hs⟩ : ∃ s, Hid (L.getD (k - 1) ByteArray.empty = s) := ⟨_, rfl⟩
              have hck : wr.cell? ⟨b, o + (k - 1), none⟩ = some (.string s) := by rw [← hs.out]; exact cell_later HX.out (cell_later HB2.out (hc (k - 1) hlt))
              have hs1 : s.size ≤ 1048576 := size_le hlt hs.out HT.out hT
              obtain ⟨P, hP, c0, c1, f0⟩ := HF.out
              have hZ := zwithin_any w2.heap.size P s wr c0 f0 (path_size hP HT.out hT) hs1
              have HP := hide hP
              have C1 := hide c1
              obtain ⟨j34, hj34⟩ := info34
              have hpn := fun wx => Lib.run_neq_ptr_same (P := Try.prog) wx (tp := 28) (te := 34) (j := j34) ⟨w2.heap.size, 0, none⟩ Try.underlying28 hj34
              clear hc hP c1
              go_wp2_with (first | (go_at_call 11; refine hZ.mono ?_; rintro e w5 ⟨rfl, hj⟩))
              go_roundg (gk - 1)
              case measure => omega
              case rel =>
                obtain ⟨Q, rfl, hQ⟩ := hj
                exact ⟨k - 1, by omega, by omega, by go_num, rfl, hide (fault_step hkp hk hs.out HP.out c0 C1.out f0 hQ), HX.out.setCell (Nat.le_refl _) _⟩
            · obtain rfl : k = 0 := by omega
              go_wp2_with fail
              go_meet
              case rel => exact ⟨rfl, HF, HX⟩
        case rest =>
          obtain ⟨rfl, HF, HX⟩ := hcut
          rename World => w6
          clear HF3 HX3
          obtain ⟨P, hP, c0, c1, f0⟩ := HF.out
          have hcv := want_string HO2.out HX.out hP
          clear hP f0
          go_wp2_with fail
          go_quiet ((first | (go_at_call 12; exact Calls.quiet_of_same (faultPath_any _ P _ (by simpa using c0))) | (go_at_call 13; exact Calls.quiet_of_same (faultMsg_any _ m _ (by simpa using c1)))))
          go_wp2_with fail
          go_ret
          exact ⟨rfl, drewN_below (HB2.out.trans (HX.out.mono HB2.out.size)) nq⟩

end Go.Proofs.Qxb6612802a
