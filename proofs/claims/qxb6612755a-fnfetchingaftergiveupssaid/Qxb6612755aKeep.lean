/-
  Plain laws: what is left of a rising list when the numbers of another are struck. No Go in sight.
-/
import Derived.Test.Qxb6612755aEnd
namespace Go.Proofs.Qxb6612755a

/-- Of L those that are not among M. -/
def keep (L M : List Int) : List Int := L.filter fun r => !mem M r

theorem keep_le (L M : List Int) : (keep L M).length ≤ L.length := List.length_filter_le _ _

theorem keep_nil (L : List Int) : keep L [] = L := by
  unfold keep; exact List.filter_eq_self.2 (fun a _ => by simp [mem])

theorem getD_eq {L : List Int} {k : Nat} (hk : k < L.length) : L.getD k 0 = L[k] := by simp [List.getD_eq_getElem?_getD, hk]

theorem keep_split (L M : List Int) (k : Nat) (hk : k < L.length) : keep L M = keep (L.take k) M ++ (if mem M (L.getD k 0) then [] else [L.getD k 0]) ++ keep (L.drop (k + 1)) M := by
  have e : L = L.take k ++ [L.getD k 0] ++ L.drop (k + 1) := by
    rw [getD_eq hk, ← List.take_succ_eq_append_getElem hk, List.take_append_drop]
  conv => lhs; rw [e]
  unfold keep
  rw [List.filter_append, List.filter_append]
  generalize L.getD k 0 = y
  congr 2
  cases h : mem M y <;> simp [h]

theorem keep_take_gone {L M : List Int} {k : Nat} {x : Int} (hk : k < L.length) (hx : L.getD k 0 = x) (h : mem M x = true) : keep (L.take (k + 1)) M = keep (L.take k) M := by
  rw [List.take_succ_eq_append_getElem hk, ← getD_eq hk, hx]
  unfold keep
  rw [List.filter_append]; simp [h]

theorem keep_take_kept {L M : List Int} {k : Nat} {x : Int} (hk : k < L.length) (hx : L.getD k 0 = x) (h : mem M x = false) : (keep (L.take (k + 1)) M).length = (keep (L.take k) M).length + 1 := by
  rw [List.take_succ_eq_append_getElem hk, ← getD_eq hk, hx]
  unfold keep
  rw [List.filter_append]; simp [h]

theorem keep_at {L M : List Int} {k : Nat} {x : Int} (hk : k < L.length) (hx : L.getD k 0 = x) (h : mem M x = false) :
    (keep (L.take k) M).length < (keep L M).length ∧ (keep L M).getD (keep (L.take k) M).length 0 = x := by
  have e := keep_split L M k hk
  rw [hx, h] at e
  rw [e]
  refine ⟨by simp, ?_⟩
  simp [List.getD_eq_getElem?_getD]

theorem mem_keep_yes {L M : List Int} {k : Nat} {x : Int} (hk : k < L.length) (hx : L.getD k 0 = x) (h : mem M x = false) : mem (keep L M) x = true := by
  obtain ⟨h1, h2⟩ := keep_at hk hx h
  exact (mem_yes _ _ _ h1 h2).symm

theorem mem_keep_no {L M : List Int} {k : Nat} {x : Int} (hk : k < M.length) (hx : M.getD k 0 = x) : mem (keep L M) x = false := by
  have h1 : mem M x = true := (mem_yes M x k hk hx).symm
  unfold mem keep
  simp only [decide_eq_false_iff_not, List.mem_filter, not_and]
  intro _
  simp [h1]

theorem rising_mono {L : List Int} (h : Rising L) : ∀ j, j < L.length → ∀ i, i < j → L.getD i 0 < L.getD j 0 := by
  intro j
  induction j with
  | zero => intro _ i hi; omega
  | succ j ih =>
    intro hj i hi
    have h1 := h j hj
    by_cases e : i = j
    · subst e; exact h1
    · have := ih (by omega) i (by omega); omega

theorem rising_apart {L : List Int} (h : Rising L) : L.Pairwise (· ≠ ·) := by
  rw [List.pairwise_iff_getElem]
  intro i j hi hj hij
  have := rising_mono h j hj i hij
  rw [getD_eq hi, getD_eq hj] at this
  omega

/-- One more struck: of a list whose members differ, the one place goes. -/
theorem gone_keep {L M : List Int} {q : Int} {rs' : List Int} (hd : L.Pairwise (· ≠ ·)) (h : Gone (keep L M) q rs') : rs' = keep L (M ++ [q]) := by
  have e : keep L (M ++ [q]) = (keep L M).filter (fun r => !(r == q)) := by
    unfold keep
    rw [List.filter_filter]
    apply List.filter_congr
    intro r _
    unfold mem
    by_cases h1 : r ∈ M <;> by_cases h2 : r = q <;> simp [h1, h2]
  rw [e]
  have hd' : (keep L M).Pairwise (· ≠ ·) := hd.sublist List.filter_sublist
  rcases h with ⟨hq, rfl⟩ | ⟨k, hk, hx, rfl⟩
  · symm
    apply List.filter_eq_self.2
    intro a ha
    have : a ≠ q := fun e => hq (e ▸ ha)
    simpa using this
  · generalize keep L M = rs at *
    have es : rs = rs.take k ++ (q :: rs.drop (k + 1)) := by
      rw [← hx, getD_eq hk, ← List.drop_eq_getElem_cons hk, List.take_append_drop]
    have hd2 : (rs.take k ++ (q :: rs.drop (k + 1))).Pairwise (· ≠ ·) := es ▸ hd'
    rw [List.pairwise_append] at hd2
    obtain ⟨_, p2, p3⟩ := hd2
    rw [List.pairwise_cons] at p2
    conv => rhs; rw [es]
    rw [List.filter_append, List.filter_cons]
    simp only [beq_self_eq_true, Bool.not_true, Bool.false_eq_true, if_false]
    unfold without
    congr 1
    · symm; apply List.filter_eq_self.2
      intro a ha
      have : a ≠ q := p3 a ha q (by simp)
      simpa using this
    · symm; apply List.filter_eq_self.2
      intro a ha
      have : q ≠ a := p2.1 a ha
      simpa using fun e => this e.symm

end Go.Proofs.Qxb6612755a
