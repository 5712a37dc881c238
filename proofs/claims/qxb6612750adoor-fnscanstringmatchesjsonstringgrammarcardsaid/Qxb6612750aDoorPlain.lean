/-
  Plain laws for FnScanStringMatchesJSONStringGrammar: no Go in sight. The word trick of 'below' and 'stops', byte by byte; the string grammar one byte at a time.
-/
namespace Go.Proofs.Qxb6612750aDoor.Plain

/-! THE WORD: eight bytes, the least first. -/
def word (b : Nat → Nat) : Nat := b 0 + 256 * (b 1 + 256 * (b 2 + 256 * (b 3 + 256 * (b 4 + 256 * (b 5 + 256 * (b 6 + 256 * b 7))))))

theorem word_lt (b : Nat → Nat) (h : ∀ k, b k < 256) : word b < 18446744073709551616 := by
  have h0 := h 0; have h1 := h 1; have h2 := h 2; have h3 := h 3; have h4 := h 4; have h5 := h 5; have h6 := h 6; have h7 := h 7
  unfold word; omega

/-- What 'below' gives: the top bit of each byte that is below n, as far as the first of them. -/
def bl (x n : Nat) : Nat := (((x + (18446744073709551616 - 72340172838076673 * n)) % 18446744073709551616) &&& (18446744073709551615 - x)) &&& 9259542123273814144

theorem high_bit : ∀ k, k < 8 → (9259542123273814144 : Nat).testBit (8 * k + 7) = true := by decide

theorem not_bit (x i : Nat) (hx : x < 18446744073709551616) (hi : i < 64) : (18446744073709551615 - x).testBit i = !x.testBit i := by
  have := Nat.testBit_two_pow_sub_succ (x := x) (n := 64) hx i
  simp only [show (2 : Nat) ^ 64 - (x + 1) = 18446744073709551615 - x by omega] at this
  rw [this]; simp [hi]

theorem bl_bit (x n k : Nat) (hx : x < 18446744073709551616) (hk : k < 8) :
    (bl x n).testBit (8 * k + 7) = ((((x + (18446744073709551616 - 72340172838076673 * n)) % 18446744073709551616).testBit (8 * k + 7)) && !x.testBit (8 * k + 7)) := by
  unfold bl
  rw [Nat.testBit_and, Nat.testBit_and, high_bit k hk, not_bit x _ hx (by omega), Bool.and_true]


theorem set_of (y k c t d : Nat) (e : y = 2 ^ (8 * k) * (c + 256 * t) + d) (hd : d < 2 ^ (8 * k)) (h1 : 128 ≤ c) (h2 : c < 256) (hk : k < 8) :
    (y % 18446744073709551616).testBit (8 * k + 7) = true := by
  rw [show (18446744073709551616 : Nat) = 2 ^ 64 by decide, Nat.testBit_mod_two_pow, e, Nat.testBit_two_pow_mul_add _ hd]
  simp only [show ¬ (8 * k + 7 < 8 * k) by omega, if_false, show 8 * k + 7 - 8 * k = 7 by omega, show 8 * k + 7 < 64 by omega, decide_true, Bool.true_and]
  rw [Nat.testBit_eq_decide_div_mod_eq]
  simp; omega

theorem unset_of (y k c t d : Nat) (e : y = 2 ^ (8 * k) * (c + 256 * t) + d) (hd : d < 2 ^ (8 * k)) (h1 : c < 128) :
    y.testBit (8 * k + 7) = false := by
  rw [e, Nat.testBit_two_pow_mul_add _ hd]
  simp only [show ¬ (8 * k + 7 < 8 * k) by omega, if_false, show 8 * k + 7 - 8 * k = 7 by omega]
  rw [Nat.testBit_eq_decide_div_mod_eq]
  simp; omega

theorem hit0 (b : Nat → Nat) (n : Nat) (h : ∀ k, b k < 256) (hn : n ≤ 128)  (c : b 0 < n) : (bl (word b) n).testBit (8 * 0 + 7) = true := by
  rw [bl_bit _ _ 0 (word_lt b h) (by omega)]
  have h0 := h 0; have h1 := h 1; have h2 := h 2; have h3 := h 3; have h4 := h 4; have h5 := h 5; have h6 := h 6; have h7 := h 7
  rw [set_of _ 0 (256 + b 0 - n) (1 * b 1 + 256 * b 2 + 65536 * b 3 + 16777216 * b 4 + 4294967296 * b 5 + 1099511627776 * b 6 + 281474976710656 * b 7 + (72057594037927935 - 282578800148737 * n)) (0 - 0 * n) (by unfold word; omega) (by omega) (by omega) (by omega) (by omega),
    unset_of _ 0 (b 0) (1 * b 1 + 256 * b 2 + 65536 * b 3 + 16777216 * b 4 + 4294967296 * b 5 + 1099511627776 * b 6 + 281474976710656 * b 7) (0) (by unfold word; omega) (by omega) (by omega)]
  rfl

theorem hit1 (b : Nat → Nat) (n : Nat) (h : ∀ k, b k < 256) (hn : n ≤ 128) (p0 : n ≤ b 0) (c : b 1 < n) : (bl (word b) n).testBit (8 * 1 + 7) = true := by
  rw [bl_bit _ _ 1 (word_lt b h) (by omega)]
  have h0 := h 0; have h1 := h 1; have h2 := h 2; have h3 := h 3; have h4 := h 4; have h5 := h 5; have h6 := h 6; have h7 := h 7
  rw [set_of _ 1 (256 + b 1 - n) (1 * b 2 + 256 * b 3 + 65536 * b 4 + 16777216 * b 5 + 4294967296 * b 6 + 1099511627776 * b 7 + (281474976710655 - 1103823438081 * n)) (1 * b 0 - 1 * n) (by unfold word; omega) (by omega) (by omega) (by omega) (by omega),
    unset_of _ 1 (b 1) (1 * b 2 + 256 * b 3 + 65536 * b 4 + 16777216 * b 5 + 4294967296 * b 6 + 1099511627776 * b 7) (1 * b 0) (by unfold word; omega) (by omega) (by omega)]
  rfl

theorem hit2 (b : Nat → Nat) (n : Nat) (h : ∀ k, b k < 256) (hn : n ≤ 128) (p0 : n ≤ b 0) (p1 : n ≤ b 1) (c : b 2 < n) : (bl (word b) n).testBit (8 * 2 + 7) = true := by
  rw [bl_bit _ _ 2 (word_lt b h) (by omega)]
  have h0 := h 0; have h1 := h 1; have h2 := h 2; have h3 := h 3; have h4 := h 4; have h5 := h 5; have h6 := h 6; have h7 := h 7
  rw [set_of _ 2 (256 + b 2 - n) (1 * b 3 + 256 * b 4 + 65536 * b 5 + 16777216 * b 6 + 4294967296 * b 7 + (1099511627775 - 4311810305 * n)) (1 * b 0 + 256 * b 1 - 257 * n) (by unfold word; omega) (by omega) (by omega) (by omega) (by omega),
    unset_of _ 2 (b 2) (1 * b 3 + 256 * b 4 + 65536 * b 5 + 16777216 * b 6 + 4294967296 * b 7) (1 * b 0 + 256 * b 1) (by unfold word; omega) (by omega) (by omega)]
  rfl

theorem hit3 (b : Nat → Nat) (n : Nat) (h : ∀ k, b k < 256) (hn : n ≤ 128) (p0 : n ≤ b 0) (p1 : n ≤ b 1) (p2 : n ≤ b 2) (c : b 3 < n) : (bl (word b) n).testBit (8 * 3 + 7) = true := by
  rw [bl_bit _ _ 3 (word_lt b h) (by omega)]
  have h0 := h 0; have h1 := h 1; have h2 := h 2; have h3 := h 3; have h4 := h 4; have h5 := h 5; have h6 := h 6; have h7 := h 7
  rw [set_of _ 3 (256 + b 3 - n) (1 * b 4 + 256 * b 5 + 65536 * b 6 + 16777216 * b 7 + (4294967295 - 16843009 * n)) (1 * b 0 + 256 * b 1 + 65536 * b 2 - 65793 * n) (by unfold word; omega) (by omega) (by omega) (by omega) (by omega),
    unset_of _ 3 (b 3) (1 * b 4 + 256 * b 5 + 65536 * b 6 + 16777216 * b 7) (1 * b 0 + 256 * b 1 + 65536 * b 2) (by unfold word; omega) (by omega) (by omega)]
  rfl

theorem hit4 (b : Nat → Nat) (n : Nat) (h : ∀ k, b k < 256) (hn : n ≤ 128) (p0 : n ≤ b 0) (p1 : n ≤ b 1) (p2 : n ≤ b 2) (p3 : n ≤ b 3) (c : b 4 < n) : (bl (word b) n).testBit (8 * 4 + 7) = true := by
  rw [bl_bit _ _ 4 (word_lt b h) (by omega)]
  have h0 := h 0; have h1 := h 1; have h2 := h 2; have h3 := h 3; have h4 := h 4; have h5 := h 5; have h6 := h 6; have h7 := h 7
  rw [set_of _ 4 (256 + b 4 - n) (1 * b 5 + 256 * b 6 + 65536 * b 7 + (16777215 - 65793 * n)) (1 * b 0 + 256 * b 1 + 65536 * b 2 + 16777216 * b 3 - 16843009 * n) (by unfold word; omega) (by omega) (by omega) (by omega) (by omega),
    unset_of _ 4 (b 4) (1 * b 5 + 256 * b 6 + 65536 * b 7) (1 * b 0 + 256 * b 1 + 65536 * b 2 + 16777216 * b 3) (by unfold word; omega) (by omega) (by omega)]
  rfl

theorem hit5 (b : Nat → Nat) (n : Nat) (h : ∀ k, b k < 256) (hn : n ≤ 128) (p0 : n ≤ b 0) (p1 : n ≤ b 1) (p2 : n ≤ b 2) (p3 : n ≤ b 3) (p4 : n ≤ b 4) (c : b 5 < n) : (bl (word b) n).testBit (8 * 5 + 7) = true := by
  rw [bl_bit _ _ 5 (word_lt b h) (by omega)]
  have h0 := h 0; have h1 := h 1; have h2 := h 2; have h3 := h 3; have h4 := h 4; have h5 := h 5; have h6 := h 6; have h7 := h 7
  rw [set_of _ 5 (256 + b 5 - n) (1 * b 6 + 256 * b 7 + (65535 - 257 * n)) (1 * b 0 + 256 * b 1 + 65536 * b 2 + 16777216 * b 3 + 4294967296 * b 4 - 4311810305 * n) (by unfold word; omega) (by omega) (by omega) (by omega) (by omega),
    unset_of _ 5 (b 5) (1 * b 6 + 256 * b 7) (1 * b 0 + 256 * b 1 + 65536 * b 2 + 16777216 * b 3 + 4294967296 * b 4) (by unfold word; omega) (by omega) (by omega)]
  rfl

theorem hit6 (b : Nat → Nat) (n : Nat) (h : ∀ k, b k < 256) (hn : n ≤ 128) (p0 : n ≤ b 0) (p1 : n ≤ b 1) (p2 : n ≤ b 2) (p3 : n ≤ b 3) (p4 : n ≤ b 4) (p5 : n ≤ b 5) (c : b 6 < n) : (bl (word b) n).testBit (8 * 6 + 7) = true := by
  rw [bl_bit _ _ 6 (word_lt b h) (by omega)]
  have h0 := h 0; have h1 := h 1; have h2 := h 2; have h3 := h 3; have h4 := h 4; have h5 := h 5; have h6 := h 6; have h7 := h 7
  rw [set_of _ 6 (256 + b 6 - n) (1 * b 7 + (255 - 1 * n)) (1 * b 0 + 256 * b 1 + 65536 * b 2 + 16777216 * b 3 + 4294967296 * b 4 + 1099511627776 * b 5 - 1103823438081 * n) (by unfold word; omega) (by omega) (by omega) (by omega) (by omega),
    unset_of _ 6 (b 6) (1 * b 7) (1 * b 0 + 256 * b 1 + 65536 * b 2 + 16777216 * b 3 + 4294967296 * b 4 + 1099511627776 * b 5) (by unfold word; omega) (by omega) (by omega)]
  rfl

theorem hit7 (b : Nat → Nat) (n : Nat) (h : ∀ k, b k < 256) (hn : n ≤ 128) (p0 : n ≤ b 0) (p1 : n ≤ b 1) (p2 : n ≤ b 2) (p3 : n ≤ b 3) (p4 : n ≤ b 4) (p5 : n ≤ b 5) (p6 : n ≤ b 6) (c : b 7 < n) : (bl (word b) n).testBit (8 * 7 + 7) = true := by
  rw [bl_bit _ _ 7 (word_lt b h) (by omega)]
  have h0 := h 0; have h1 := h 1; have h2 := h 2; have h3 := h 3; have h4 := h 4; have h5 := h 5; have h6 := h 6; have h7 := h 7
  rw [set_of _ 7 (256 + b 7 - n) (0 + (0 - 0 * n)) (1 * b 0 + 256 * b 1 + 65536 * b 2 + 16777216 * b 3 + 4294967296 * b 4 + 1099511627776 * b 5 + 281474976710656 * b 6 - 282578800148737 * n) (by unfold word; omega) (by omega) (by omega) (by omega) (by omega),
    unset_of _ 7 (b 7) (0) (1 * b 0 + 256 * b 1 + 65536 * b 2 + 16777216 * b 3 + 4294967296 * b 4 + 1099511627776 * b 5 + 281474976710656 * b 6) (by unfold word; omega) (by omega) (by omega)]
  rfl

/-- Where the first k + 1 marks are not set, the first k + 1 bytes are none of them below n. -/
theorem bl_clear (b : Nat → Nat) (n : Nat) (h : ∀ k, b k < 256) (hn : n ≤ 128) : ∀ k, k < 8 → (∀ j, j ≤ k → (bl (word b) n).testBit (8 * j + 7) = false) → n ≤ b k := by
  have s0 : (bl (word b) n).testBit (8 * 0 + 7) = false → n ≤ b 0 := fun g => by
    apply Nat.le_of_not_lt; intro c; rw [hit0 b n h hn c] at g; cases g
  have s1 : n ≤ b 0 → (bl (word b) n).testBit (8 * 1 + 7) = false → n ≤ b 1 := fun p0 g => by
    apply Nat.le_of_not_lt; intro c; rw [hit1 b n h hn p0 c] at g; cases g
  have s2 : n ≤ b 0 → n ≤ b 1 → (bl (word b) n).testBit (8 * 2 + 7) = false → n ≤ b 2 := fun p0 p1 g => by
    apply Nat.le_of_not_lt; intro c; rw [hit2 b n h hn p0 p1 c] at g; cases g
  have s3 : n ≤ b 0 → n ≤ b 1 → n ≤ b 2 → (bl (word b) n).testBit (8 * 3 + 7) = false → n ≤ b 3 := fun p0 p1 p2 g => by
    apply Nat.le_of_not_lt; intro c; rw [hit3 b n h hn p0 p1 p2 c] at g; cases g
  have s4 : n ≤ b 0 → n ≤ b 1 → n ≤ b 2 → n ≤ b 3 → (bl (word b) n).testBit (8 * 4 + 7) = false → n ≤ b 4 := fun p0 p1 p2 p3 g => by
    apply Nat.le_of_not_lt; intro c; rw [hit4 b n h hn p0 p1 p2 p3 c] at g; cases g
  have s5 : n ≤ b 0 → n ≤ b 1 → n ≤ b 2 → n ≤ b 3 → n ≤ b 4 → (bl (word b) n).testBit (8 * 5 + 7) = false → n ≤ b 5 := fun p0 p1 p2 p3 p4 g => by
    apply Nat.le_of_not_lt; intro c; rw [hit5 b n h hn p0 p1 p2 p3 p4 c] at g; cases g
  have s6 : n ≤ b 0 → n ≤ b 1 → n ≤ b 2 → n ≤ b 3 → n ≤ b 4 → n ≤ b 5 → (bl (word b) n).testBit (8 * 6 + 7) = false → n ≤ b 6 := fun p0 p1 p2 p3 p4 p5 g => by
    apply Nat.le_of_not_lt; intro c; rw [hit6 b n h hn p0 p1 p2 p3 p4 p5 c] at g; cases g
  have s7 : n ≤ b 0 → n ≤ b 1 → n ≤ b 2 → n ≤ b 3 → n ≤ b 4 → n ≤ b 5 → n ≤ b 6 → (bl (word b) n).testBit (8 * 7 + 7) = false → n ≤ b 7 := fun p0 p1 p2 p3 p4 p5 p6 g => by
    apply Nat.le_of_not_lt; intro c; rw [hit7 b n h hn p0 p1 p2 p3 p4 p5 p6 c] at g; cases g
  intro k hk g
  have q0 := s0 (g 0 (by omega))
  match k, hk with
  | 0, _ => exact q0
  | k + 1, hk =>
    have q1 := s1 q0 (g 1 (by omega))
    match k, hk with
    | 0, _ => exact q1
    | k + 1, hk =>
      have q2 := s2 q0 q1 (g 2 (by omega))
      match k, hk with
      | 0, _ => exact q2
      | k + 1, hk =>
        have q3 := s3 q0 q1 q2 (g 3 (by omega))
        match k, hk with
        | 0, _ => exact q3
        | k + 1, hk =>
          have q4 := s4 q0 q1 q2 q3 (g 4 (by omega))
          match k, hk with
          | 0, _ => exact q4
          | k + 1, hk =>
            have q5 := s5 q0 q1 q2 q3 q4 (g 5 (by omega))
            match k, hk with
            | 0, _ => exact q5
            | k + 1, hk =>
              have q6 := s6 q0 q1 q2 q3 q4 q5 (g 6 (by omega))
              match k, hk with
              | 0, _ => exact q6
              | 0 + 1, _ => exact s7 q0 q1 q2 q3 q4 q5 q6 (g 7 (by omega))

/-! THE XOR, byte by byte. -/
theorem xor_cons (a p c q : Nat) (ha : a < 256) (hc : c < 256) : (a + 256 * p) ^^^ (c + 256 * q) = (a ^^^ c) + 256 * (p ^^^ q) := by
  have hx : a ^^^ c < 2 ^ 8 := Nat.xor_lt_two_pow ha hc
  apply Nat.eq_of_testBit_eq
  intro i
  rw [show a + 256 * p = 2 ^ 8 * p + a by omega, show c + 256 * q = 2 ^ 8 * q + c by omega, show (a ^^^ c) + 256 * (p ^^^ q) = 2 ^ 8 * (p ^^^ q) + (a ^^^ c) by omega]
  rw [Nat.testBit_xor, Nat.testBit_two_pow_mul_add _ ha, Nat.testBit_two_pow_mul_add _ hc, Nat.testBit_two_pow_mul_add _ hx]
  by_cases h : i < 8 <;> simp [h, Nat.testBit_xor]

theorem word_xor (b c : Nat → Nat) (hb : ∀ k, b k < 256) (hc : ∀ k, c k < 256) : word b ^^^ word c = word (fun k => b k ^^^ c k) := by
  unfold word
  simp only [xor_cons _ _ _ _ (hb _) (hc _)]

theorem quotes : (2459565876494606882 : Nat) = word (fun _ => 34) := by decide
theorem slashes : (6655295901103053916 : Nat) = word (fun _ => 92) := by decide

/-- What 'stops' gives. -/
def st (x : Nat) : Nat := (bl x 32 ||| bl (x ^^^ 2459565876494606882) 1) ||| bl (x ^^^ 6655295901103053916) 1

theorem bl_lt (x n : Nat) : bl x n < 18446744073709551616 := by
  unfold bl
  exact Nat.and_lt_two_pow (n := 64) _ (by decide)

theorem st_lt (x : Nat) : st x < 18446744073709551616 := by
  unfold st
  exact Nat.or_lt_two_pow (n := 64) (Nat.or_lt_two_pow (bl_lt _ _) (bl_lt _ _)) (bl_lt _ _)

theorem xor_pos (a c : Nat) (h : 1 ≤ a ^^^ c) : a ≠ c := by
  intro e; subst e; simp at h

/-- Where no bit of the first k + 1 bytes of 'stops' is set, byte k is plain. -/
theorem st_clear (b : Nat → Nat) (h : ∀ k, b k < 256) (k : Nat) (hk : k < 8) (g : ∀ j, j ≤ k → (st (word b)).testBit (8 * j + 7) = false) : 32 ≤ b k ∧ b k ≠ 34 ∧ b k ≠ 92 := by
  have g1 : ∀ j, j ≤ k → (bl (word b) 32).testBit (8 * j + 7) = false := fun j hj => by
    have := g j hj; unfold st at this; simp only [Nat.testBit_or, Bool.or_eq_false_iff] at this; exact this.1.1
  have g2 : ∀ j, j ≤ k → (bl (word b ^^^ 2459565876494606882) 1).testBit (8 * j + 7) = false := fun j hj => by
    have := g j hj; unfold st at this; simp only [Nat.testBit_or, Bool.or_eq_false_iff] at this; exact this.1.2
  have g3 : ∀ j, j ≤ k → (bl (word b ^^^ 6655295901103053916) 1).testBit (8 * j + 7) = false := fun j hj => by
    have := g j hj; unfold st at this; simp only [Nat.testBit_or, Bool.or_eq_false_iff] at this; exact this.2
  rw [quotes, word_xor b _ h (fun _ => by decide)] at g2
  rw [slashes, word_xor b _ h (fun _ => by decide)] at g3
  have hx : ∀ c, c < 256 → ∀ k, b k ^^^ c < 256 := fun c hc k => Nat.xor_lt_two_pow (n := 8) (h k) hc
  exact ⟨bl_clear b 32 h (by decide) k hk g1, xor_pos _ _ (bl_clear _ 1 (hx 34 (by decide)) (by decide) k hk g2), xor_pos _ _ (bl_clear _ 1 (hx 92 (by decide)) (by decide) k hk g3)⟩

theorem st_zero (b : Nat → Nat) (h : ∀ k, b k < 256) (z : st (word b) = 0) (k : Nat) (hk : k < 8) : 32 ≤ b k ∧ b k ≠ 34 ∧ b k ≠ 92 :=
  st_clear b h k hk (fun j _ => by rw [z]; simp)

theorem low_clear (m t q : Nat) (e : m = 2 ^ t * (2 * q + 1)) (i : Nat) (hi : i < t) : m.testBit i = false := by
  rw [e, Nat.testBit_two_pow_mul]; simp [Nat.not_le.2 hi]

theorem st_first (b : Nat → Nat) (h : ∀ k, b k < 256) (t q : Nat) (e : st (word b) = 2 ^ t * (2 * q + 1)) (ht : t < 64) (k : Nat) (hk : k < t / 8) : 32 ≤ b k ∧ b k ≠ 34 ∧ b k ≠ 92 :=
  st_clear b h k (by omega) (fun j hj => low_clear _ t q e _ (by omega))

/-! THE GRAMMAR, one byte at a time. -/
def simple (e : Int) : Bool := e == 34 || e == 92 || e == 47 || e == 98 || e == 102 || e == 110 || e == 114 || e == 116
def isHex (c : Int) : Bool := decide ((48 ≤ c ∧ c ≤ 57) ∨ (97 ≤ c ∧ c ≤ 102) ∨ (65 ≤ c ∧ c ≤ 70))

def scan (B : Nat → Int) (n : Nat) : Nat → Nat → Nat × Bool
  | 0, _ => (n, false)
  | f + 1, j =>
    if n ≤ j then (n, false) else
    if B j = 34 then (j + 1, true) else
    if B j < 32 then (j, false) else
    if B j ≠ 92 then scan B n f (j + 1) else
    if n ≤ j + 1 then (n, false) else
    if simple (B (j + 1)) = true then scan B n f (j + 2) else
    if B (j + 1) ≠ 117 then (j, false) else
    if n < j + 6 then (n, false) else
    if (isHex (B (j + 2)) && isHex (B (j + 3)) && isHex (B (j + 4)) && isHex (B (j + 5))) = true then scan B n f (j + 6) else (j, false)

theorem scan_end (B : Nat → Int) (n f j : Nat) (h : n ≤ j) : scan B n f j = (n, false) := by
  cases f with
  | zero => rfl
  | succ f => simp [scan, h]

theorem scan_fuel (B : Nat → Int) (n : Nat) : ∀ f g j, n - j ≤ f → n - j ≤ g → scan B n f j = scan B n g j := by
  intro f
  induction f with
  | zero => intro g j h _; rw [scan_end _ _ _ _ (by omega), scan_end _ _ _ _ (by omega)]
  | succ f ih =>
    intro g j h h'
    cases g with
    | zero => rw [scan_end _ _ _ _ (by omega), scan_end _ _ _ _ (by omega)]
    | succ g =>
      by_cases hn : n ≤ j
      · rw [scan_end _ _ _ _ hn, scan_end _ _ _ _ hn]
      · simp only [scan]
        rw [ih g (j + 1) (by omega) (by omega), ih g (j + 2) (by omega) (by omega), ih g (j + 6) (by omega) (by omega)]

/-- Where the string that goes on at j ends, and whether it is whole. -/
def S (B : Nat → Int) (n j : Nat) : Nat × Bool := scan B n (n - j) j

theorem S_step (B : Nat → Int) (n j : Nat) : S B n j =
    if n ≤ j then (n, false) else
    if B j = 34 then (j + 1, true) else
    if B j < 32 then (j, false) else
    if B j ≠ 92 then S B n (j + 1) else
    if n ≤ j + 1 then (n, false) else
    if simple (B (j + 1)) = true then S B n (j + 2) else
    if B (j + 1) ≠ 117 then (j, false) else
    if n < j + 6 then (n, false) else
    if (isHex (B (j + 2)) && isHex (B (j + 3)) && isHex (B (j + 4)) && isHex (B (j + 5))) = true then S B n (j + 6) else (j, false) := by
  by_cases hn : n ≤ j
  · rw [if_pos hn]; exact scan_end _ _ _ _ hn
  · have e : S B n j = scan B n (n - j - 1 + 1) j := by unfold S; congr 1; omega
    rw [e, scan, scan_fuel B n (n - j - 1) (n - (j + 1)) (j + 1) (by omega) (by omega), scan_fuel B n (n - j - 1) (n - (j + 2)) (j + 2) (by omega) (by omega), scan_fuel B n (n - j - 1) (n - (j + 6)) (j + 6) (by omega) (by omega)]
    rfl

theorem S_end (B : Nat → Int) (n j : Nat) (h : n ≤ j) : S B n j = (n, false) := by rw [S_step, if_pos h]
theorem S_quote (B : Nat → Int) (n j : Nat) (h : j < n) (h1 : B j = 34) : S B n j = (j + 1, true) := by rw [S_step, if_neg (by omega), if_pos h1]
theorem S_ctl (B : Nat → Int) (n j : Nat) (h : j < n) (h2 : B j < 32) : S B n j = (j, false) := by rw [S_step, if_neg (by omega), if_neg (by omega), if_pos h2]
theorem S_plain (B : Nat → Int) (n j : Nat) (h : j < n) (h1 : B j ≠ 34) (h2 : ¬ B j < 32) (h3 : B j ≠ 92) : S B n j = S B n (j + 1) := by rw [S_step, if_neg (by omega), if_neg h1, if_neg h2, if_pos h3]
theorem S_cut (B : Nat → Int) (n j : Nat) (h : j < n) (h3 : B j = 92) (h4 : n ≤ j + 1) : S B n j = (n, false) := by rw [S_step, if_neg (by omega), if_neg (by omega), if_neg (by omega), if_neg (by omega), if_pos h4]
theorem S_simple (B : Nat → Int) (n j : Nat) (h : j + 1 < n) (h3 : B j = 92) (h4 : simple (B (j + 1)) = true) : S B n j = S B n (j + 2) := by rw [S_step, if_neg (by omega), if_neg (by omega), if_neg (by omega), if_neg (by omega), if_neg (by omega), if_pos h4]
theorem S_other (B : Nat → Int) (n j : Nat) (h : j + 1 < n) (h3 : B j = 92) (h4 : simple (B (j + 1)) = false) (h5 : B (j + 1) ≠ 117) : S B n j = (j, false) := by rw [S_step, if_neg (by omega), if_neg (by omega), if_neg (by omega), if_neg (by omega), if_neg (by omega), if_neg (by simp [h4]), if_pos h5]
theorem S_short (B : Nat → Int) (n j : Nat) (h : j + 1 < n) (h3 : B j = 92) (h5 : B (j + 1) = 117) (h6 : n < j + 6) : S B n j = (n, false) := by
  have h4 : simple (B (j + 1)) = false := by rw [h5]; rfl
  rw [S_step, if_neg (by omega), if_neg (by omega), if_neg (by omega), if_neg (by omega), if_neg (by omega), if_neg (by simp [h4]), if_neg (by omega), if_pos h6]
theorem S_hex (B : Nat → Int) (n j : Nat) (h3 : B j = 92) (h5 : B (j + 1) = 117) (h6 : j + 6 ≤ n) (h7 : (isHex (B (j + 2)) && isHex (B (j + 3)) && isHex (B (j + 4)) && isHex (B (j + 5))) = true) : S B n j = S B n (j + 6) := by
  have h4 : simple (B (j + 1)) = false := by rw [h5]; rfl
  rw [S_step, if_neg (by omega), if_neg (by omega), if_neg (by omega), if_neg (by omega), if_neg (by omega), if_neg (by simp [h4]), if_neg (by omega), if_neg (by omega), if_pos h7]
theorem S_nohex (B : Nat → Int) (n j : Nat) (h3 : B j = 92) (h5 : B (j + 1) = 117) (h6 : j + 6 ≤ n) (h7 : (isHex (B (j + 2)) && isHex (B (j + 3)) && isHex (B (j + 4)) && isHex (B (j + 5))) = false) : S B n j = (j, false) := by
  have h4 : simple (B (j + 1)) = false := by rw [h5]; rfl
  rw [S_step, if_neg (by omega), if_neg (by omega), if_neg (by omega), if_neg (by omega), if_neg (by omega), if_neg (by simp [h4]), if_neg (by omega), if_neg (by omega), if_neg (by rw [h7]; simp)]

theorem S_skip (B : Nat → Int) (n j : Nat) : ∀ t, j + t ≤ n → (∀ k, k < t → B (j + k) ≠ 34 ∧ ¬ B (j + k) < 32 ∧ B (j + k) ≠ 92) → S B n j = S B n (j + t)
  | 0, _, _ => rfl
  | t + 1, h, g => by
    rw [S_skip B n j t (by omega) (fun k hk => g k (by omega))]
    have := g t (by omega)
    rw [S_plain B n (j + t) (by omega) this.1 this.2.1 this.2.2]; rfl

end Go.Proofs.Qxb6612750aDoor.Plain
