/-
  Plain laws for FnWithinFoldBuildsDottedPath: no Go in sight. A path that is built from the last step to the first is the path that reads the steps in order.
-/
namespace Go.Proofs.Qxb6612802a.Plain

/-- What 'within' makes of the path p at the step s. -/
def join (s : List UInt8) : List UInt8 → List UInt8
  | [] => s
  | c :: p => if c = 91 then s ++ (c :: p) else s ++ (46 :: (c :: p))

/-- From the last step to the first. -/
def path : List (List UInt8) → List UInt8
  | [] => []
  | s :: r => join s (path r)

/-- The dot ahead of what follows: where some step that follows is not empty, and the first such does not open with a bracket. -/
def dot : List (List UInt8) → List UInt8
  | [] => []
  | [] :: r => dot r
  | (c :: _) :: _ => if c = 91 then [] else [46]

def want : List (List UInt8) → List UInt8
  | [] => []
  | s :: r => s ++ (dot r ++ want r)

theorem dot_cases : ∀ r, dot r = [] ∨ dot r = [46]
  | [] => .inl rfl
  | [] :: r => dot_cases r
  | (c :: _) :: _ => by unfold dot; by_cases h : c = 91 <;> simp [h]

theorem join_head (c : UInt8) (t p : List UInt8) : ∃ x, join (c :: t) p = c :: x := by
  cases p with
  | nil => exact ⟨t, rfl⟩
  | cons d p => unfold join; by_cases h : d = 91 <;> simp [h]

theorem join_dot : ∀ (r : List (List UInt8)) (s : List UInt8), join s (path r) = s ++ (dot r ++ path r)
  | [], s => by simp [path, join, dot]
  | [] :: r, s => by
    have e : path ([] :: r) = dot r ++ path r := by show join [] (path r) = _; rw [join_dot r []]; rfl
    rw [e]
    show join s (dot r ++ path r) = s ++ (dot r ++ (dot r ++ path r))
    rcases dot_cases r with h | h
    · have := join_dot r s
      rw [h] at this ⊢
      simpa using this
    · rw [h]; simp [join]
  | (c :: t) :: r, s => by
    obtain ⟨x, hx⟩ := join_head c t (path r)
    have e : path ((c :: t) :: r) = c :: x := hx
    rw [e]
    show join s (c :: x) = s ++ ((if c = 91 then [] else [46]) ++ (c :: x))
    unfold join
    by_cases h : c = 91 <;> simp [h]

theorem path_eq : ∀ L, path L = want L
  | [] => rfl
  | s :: r => by show join s (path r) = s ++ (dot r ++ want r); rw [join_dot, path_eq r]

/-- The first k pieces of what is wanted. -/
def pre (L : List (List UInt8)) : Nat → List UInt8
  | 0 => []
  | k + 1 => pre L k ++ (L.getD k [] ++ dot (L.drop (k + 1)))

theorem pre_want (L : List (List UInt8)) : ∀ k, k ≤ L.length → pre L k ++ want (L.drop k) = want L
  | 0, _ => by simp [pre]
  | k + 1, h => by
    have ih := pre_want L k (by omega)
    rw [List.drop_eq_getElem_cons (show k < L.length by omega)] at ih
    rw [← ih]
    simp [pre, want, List.getD_eq_getElem?_getD, show k < L.length by omega]

theorem pre_all (L : List (List UInt8)) : pre L L.length = want L := by
  have := pre_want L L.length (Nat.le_refl _)
  simpa [want] using this

/-- The room that the law's own reckoning makes. -/
def tot : List (List UInt8) → Nat
  | [] => 0
  | s :: r => 16 + s.length + tot r

theorem tot_append : ∀ a b, tot (a ++ b) = tot a + tot b
  | [], b => by simp [tot]
  | s :: a, b => by simp only [List.cons_append, tot, tot_append a b]; omega

theorem join_length (s p : List UInt8) : (join s p).length ≤ s.length + 1 + p.length := by
  cases p with
  | nil => simp [join]
  | cons d p => unfold join; by_cases h : d = 91 <;> simp [h] <;> omega

theorem path_length : ∀ L, (path L).length ≤ tot L
  | [] => by simp [path, tot]
  | s :: r => by
    have h1 := join_length s (path r)
    have h2 := path_length r
    show (join s (path r)).length ≤ 16 + s.length + tot r
    omega

theorem dot_length (r : List (List UInt8)) : (dot r).length ≤ 1 := by
  rcases dot_cases r with h | h <;> simp [h]

theorem tot_take_succ (L : List (List UInt8)) (k : Nat) (hk : k < L.length) : tot (L.take (k + 1)) = tot (L.take k) + (16 + (L.getD k []).length) := by
  rw [List.take_succ_eq_append_getElem hk, tot_append]
  simp [tot, List.getD_eq_getElem?_getD, hk]

theorem pre_length (L : List (List UInt8)) : ∀ k, k ≤ L.length → (pre L k).length ≤ tot (L.take k)
  | 0, _ => by simp [pre]
  | k + 1, h => by
    have h1 := pre_length L k (by omega)
    have h2 := dot_length (L.drop (k + 1))
    rw [tot_take_succ L k (by omega)]
    simp only [pre, List.length_append]
    omega

theorem tot_take_le (L : List (List UInt8)) (k : Nat) : tot (L.take k) ≤ tot L := by
  have := tot_append (L.take k) (L.drop k)
  rw [List.take_append_drop] at this
  omega
theorem tot_drop_le (L : List (List UInt8)) (k : Nat) : tot (L.drop k) ≤ tot L := by
  have := tot_append (L.take k) (L.drop k)
  rw [List.take_append_drop] at this
  omega

theorem path_drop (L : List (List UInt8)) (k : Nat) (hk : k < L.length) : path (L.drop k) = join (L.getD k []) (path (L.drop (k + 1))) := by
  rw [List.drop_eq_getElem_cons hk]
  simp [path, List.getD_eq_getElem?_getD, hk]

theorem dot_end (L : List (List UInt8)) (k : Nat) (hk : L.length ≤ k) : dot (L.drop k) = [] := by
  rw [List.drop_eq_nil_of_le hk]; rfl
theorem dot_empty (L : List (List UInt8)) (k : Nat) (hk : k < L.length) (h : L.getD k [] = []) : dot (L.drop k) = dot (L.drop (k + 1)) := by
  rw [List.drop_eq_getElem_cons hk, show L[k] = [] by simpa [List.getD_eq_getElem?_getD, hk] using h]; rfl
theorem dot_some (L : List (List UInt8)) (k : Nat) (hk : k < L.length) (c : UInt8) (t : List UInt8) (h : L.getD k [] = c :: t) : dot (L.drop k) = if c = 91 then [] else [46] := by
  rw [List.drop_eq_getElem_cons hk, show L[k] = c :: t by simpa [List.getD_eq_getElem?_getD, hk] using h]; rfl

end Go.Proofs.Qxb6612802a.Plain
