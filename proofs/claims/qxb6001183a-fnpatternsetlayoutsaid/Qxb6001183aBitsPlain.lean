/-
  PLAIN: rows of 64-bit words as sets of bits. No Go in sight.
-/
namespace Go.Proofs.Qxb6001183a.Pl

/-- The number whose first n bits are f's. -/
def bword (f : Nat → Bool) : Nat → Nat
  | 0 => 0
  | n + 1 => 2 ^ n * (if f n then 1 else 0) + bword f n

theorem bword_lt (f : Nat → Bool) : ∀ n, bword f n < 2 ^ n
  | 0 => by simp [bword]
  | n + 1 => by
    have := bword_lt f n
    unfold bword
    rw [Nat.pow_succ]
    split <;> omega

theorem bword_bit (f : Nat → Bool) : ∀ n j, (bword f n).testBit j = (decide (j < n) && f j)
  | 0, j => by simp [bword]
  | n + 1, j => by
    unfold bword
    rw [Nat.testBit_two_pow_mul_add _ (bword_lt f n)]
    by_cases h : j < n
    · rw [if_pos h, bword_bit f n j]
      simp [h, Nat.lt_succ_of_lt h]
    · rw [if_neg h]
      by_cases e : j = n
      · subst e
        cases hf : f j <;> simp
      · have h2 : ¬ j < n + 1 := by omega
        have h3 : 1 ≤ j - n := by omega
        simp only [h2, decide_false, Bool.false_and]
        split
        · apply Nat.testBit_lt_two_pow
          exact Nat.lt_of_lt_of_le (show 1 < 2 ^ 1 from by decide) (Nat.pow_le_pow_right (by decide) h3)
        · simp

/-- Word q of the bits F. -/
def word (F : Nat → Bool) (q : Nat) : Nat := bword (fun j => F (64 * q + j)) 64

theorem word_lt (F : Nat → Bool) (q : Nat) : word F q < 18446744073709551616 := bword_lt _ 64

theorem word_bit (F : Nat → Bool) (q j : Nat) (h : j < 64) : (word F q).testBit j = F (64 * q + j) := by
  unfold word
  rw [bword_bit]
  simp [h]

theorem word_bit_high (F : Nat → Bool) (q j : Nat) (h : ¬ j < 64) : (word F q).testBit j = false := by
  unfold word
  rw [bword_bit]
  simp [h]

theorem word_ext (x : Nat) (hx : x < 18446744073709551616) (F : Nat → Bool) (q : Nat) (h : ∀ j, j < 64 → x.testBit j = F (64 * q + j)) : x = word F q := by
  apply Nat.eq_of_testBit_eq
  intro j
  by_cases hj : j < 64
  · rw [h j hj, word_bit F q j hj]
  · rw [word_bit_high F q j hj]
    apply Nat.testBit_lt_two_pow
    exact Nat.lt_of_lt_of_le hx (Nat.pow_le_pow_right (n := 2) (i := 64) (by decide) (by omega))

theorem word_congr (F G : Nat → Bool) (q : Nat) (h : ∀ j, j < 64 → F (64 * q + j) = G (64 * q + j)) : word F q = word G q := by
  apply word_ext _ (word_lt F q)
  intro j hj
  rw [word_bit F q j hj, h j hj]

theorem word_zero (q : Nat) : word (fun _ => false) q = 0 := by
  symm
  apply word_ext 0 (by decide)
  intro j _
  simp

/-- F with bit i besides. -/
def setF (F : Nat → Bool) (i : Nat) : Nat → Bool := fun b => b == i || F b

theorem word_set (F : Nat → Bool) (i : Nat) : word F (i / 64) ||| 2 ^ (i % 64) = word (setF F i) (i / 64) := by
  have hlt : 2 ^ (i % 64) < 18446744073709551616 := Nat.pow_lt_pow_right (n := 64) (by decide) (Nat.mod_lt _ (by decide))
  apply word_ext _ (Nat.or_lt_two_pow (n := 64) (word_lt F _) hlt)
  intro j hj
  rw [Nat.testBit_or, word_bit F _ j hj, Nat.testBit_two_pow]
  unfold setF
  have e : (64 * (i / 64) + j == i) = decide (i % 64 = j) := by
    rw [Bool.eq_iff_iff]; simp; omega
  rw [e, Bool.or_comm]

theorem word_set_other (F : Nat → Bool) (i q : Nat) (h : q ≠ i / 64) : word (setF F i) q = word F q := by
  apply word_congr
  intro j hj
  unfold setF
  have : (64 * q + j == i) = false := by rw [beq_eq_false_iff_ne]; omega
  rw [this, Bool.false_or]

/-- One bit of a row, as Go reads it: '(cur[b/64]>>uint(b%64))&1 == 1'. -/
theorem word_read (F : Nat → Bool) (b : Nat) : (word F (b / 64) / 2 ^ (b % 64)) % 2 = if F b then 1 else 0 := by
  have h := word_bit F (b / 64) (b % 64) (Nat.mod_lt _ (by decide))
  rw [show 64 * (b / 64) + b % 64 = b from by omega] at h
  rw [Nat.testBit_eq_decide_div_mod_eq] at h
  have h2 : (word F (b / 64) / 2 ^ (b % 64)) % 2 < 2 := Nat.mod_lt _ (by decide)
  cases hF : F b
  · rw [hF] at h
    simp at h
    simpa using h
  · rw [hF] at h
    simp at h
    simpa using h

/-- The step of the automaton over words: '(cur[w]<<1 | carry) & mv[w]', carry: the highest bit of the word before. -/
theorem word_shift (F : Nat → Bool) (q : Nat) (M : Nat → Bool) :
    (((word F q * 2) % 18446744073709551616) ||| (if q = 0 then 0 else word F (q - 1) / 2 ^ 63)) &&& word M q = word (fun b => (decide (0 < b) && F (b - 1)) && M b) q := by
  have hl : ((word F q * 2) % 18446744073709551616) < 18446744073709551616 := Nat.mod_lt _ (by decide)
  have hand : ∀ a : Nat, a &&& word M q < 18446744073709551616 := fun a => Nat.lt_of_le_of_lt Nat.and_le_right (word_lt M q)
  apply word_ext _ (hand _)
  intro j hj
  rw [Nat.testBit_and, Nat.testBit_or, word_bit M q j hj]
  congr 1
  have e1 : (word F q * 2 % 18446744073709551616).testBit j = (decide (0 < j) && F (64 * q + (j - 1))) := by
    rw [show (18446744073709551616 : Nat) = 2 ^ 64 from by decide, Nat.testBit_mod_two_pow, show word F q * 2 = word F q * 2 ^ 1 from by rw [Nat.pow_one], Nat.testBit_mul_two_pow]
    simp only [hj, decide_true, Bool.true_and]
    by_cases h0 : 0 < j
    · rw [word_bit F q (j - 1) (by omega)]
      simp [h0, show 1 ≤ j from h0]
    · have : j = 0 := by omega
      subst this
      simp
  rw [e1]
  by_cases hq : q = 0
  · subst hq
    simp only [if_true, Nat.zero_testBit, Bool.or_false, Nat.mul_zero, Nat.zero_add]
  · rw [if_neg hq]
    have e2 : (word F (q - 1) / 2 ^ 63).testBit j = (decide (j = 0) && F (64 * q - 1)) := by
      rw [Nat.testBit_div_two_pow]
      by_cases h0 : j = 0
      · subst h0
        rw [word_bit F (q - 1) _ (by omega), show 64 * (q - 1) + (0 + 63) = 64 * q - 1 from by omega]
        simp
      · rw [word_bit_high F (q - 1) _ (by omega)]
        simp [h0]
    rw [e2]
    by_cases h0 : j = 0
    · subst h0
      simp [show 0 < 64 * q from by omega]
    · have h1 : 0 < j := by omega
      rw [show 64 * q + j - 1 = 64 * q + (j - 1) from by omega]
      simp [h0, h1, show 0 < 64 * q + j from by omega]

theorem word_and (F G : Nat → Bool) (q : Nat) : word F q &&& word G q = word (fun b => F b && G b) q := by
  apply word_ext _ (Nat.lt_of_le_of_lt Nat.and_le_right (word_lt G q))
  intro j hj
  rw [Nat.testBit_and, word_bit F q j hj, word_bit G q j hj]

theorem word_or (F G : Nat → Bool) (q : Nat) : word F q ||| word G q = word (fun b => F b || G b) q := by
  apply word_ext _ (Nat.or_lt_two_pow (n := 64) (word_lt F q) (word_lt G q))
  intro j hj
  rw [Nat.testBit_or, word_bit F q j hj, word_bit G q j hj]

end Go.Proofs.Qxb6001183a.Pl
