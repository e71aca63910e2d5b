/-
  PLAIN: rows of 64-bit words as sets of bits; marks and their count. No Go in sight.
-/
import Derived.Test.Qxb6001318aBuildPlain
namespace Go.Proofs.Qxb6001318a.Pl
set_option linter.unusedSimpArgs false
set_option linter.unusedVariables false

/-- The number whose first n bits are f's. -/
def bword (f : Nat → Bool) : Nat → Nat
  | 0 => 0
  | n + 1 => 2 ^ n * (if f n then 1 else 0) + bword f n

theorem bword_lt (f : Nat → Bool) : ∀ n, bword f n < 2 ^ n
  | 0 => by simp [bword]
  | n + 1 => by
    have := bword_lt f n
    unfold bword
    rw [Nat.pow_succ]
    split <;> omega

theorem bword_bit (f : Nat → Bool) : ∀ n j, (bword f n).testBit j = (decide (j < n) && f j)
  | 0, j => by simp [bword]
  | n + 1, j => by
    unfold bword
    rw [Nat.testBit_two_pow_mul_add _ (bword_lt f n)]
    by_cases h : j < n
    · rw [if_pos h, bword_bit f n j]
      simp [h, Nat.lt_succ_of_lt h]
    · rw [if_neg h]
      by_cases e : j = n
      · subst e
        cases hf : f j <;> simp
      · have h2 : ¬ j < n + 1 := by omega
        have h3 : 1 ≤ j - n := by omega
        simp only [h2, decide_false, Bool.false_and]
        split
        · apply Nat.testBit_lt_two_pow
          exact Nat.lt_of_lt_of_le (show 1 < 2 ^ 1 from by decide) (Nat.pow_le_pow_right (by decide) h3)
        · simp

/-- Word q of the bits F. -/
def word (F : Nat → Bool) (q : Nat) : Nat := bword (fun j => F (64 * q + j)) 64

theorem word_lt (F : Nat → Bool) (q : Nat) : word F q < 18446744073709551616 := bword_lt _ 64

theorem word_bit (F : Nat → Bool) (q j : Nat) (h : j < 64) : (word F q).testBit j = F (64 * q + j) := by
  unfold word
  rw [bword_bit]
  simp [h]

theorem word_bit_high (F : Nat → Bool) (q j : Nat) (h : ¬ j < 64) : (word F q).testBit j = false := by
  unfold word
  rw [bword_bit]
  simp [h]

theorem word_ext (x : Nat) (hx : x < 18446744073709551616) (F : Nat → Bool) (q : Nat) (h : ∀ j, j < 64 → x.testBit j = F (64 * q + j)) : x = word F q := by
  apply Nat.eq_of_testBit_eq
  intro j
  by_cases hj : j < 64
  · rw [h j hj, word_bit F q j hj]
  · rw [word_bit_high F q j hj]
    apply Nat.testBit_lt_two_pow
    exact Nat.lt_of_lt_of_le hx (Nat.pow_le_pow_right (n := 2) (i := 64) (by decide) (by omega))

theorem word_congr (F G : Nat → Bool) (q : Nat) (h : ∀ j, j < 64 → F (64 * q + j) = G (64 * q + j)) : word F q = word G q := by
  apply word_ext _ (word_lt F q)
  intro j hj
  rw [word_bit F q j hj, h j hj]

theorem word_zero (q : Nat) : word (fun _ => false) q = 0 := by
  symm
  apply word_ext 0 (by decide)
  intro j _
  simp

/-- F with bit i besides. -/
def setF (F : Nat → Bool) (i : Nat) : Nat → Bool := fun b => b == i || F b

theorem word_set (F : Nat → Bool) (i : Nat) : word F (i / 64) ||| 2 ^ (i % 64) = word (setF F i) (i / 64) := by
  have hlt : 2 ^ (i % 64) < 18446744073709551616 := Nat.pow_lt_pow_right (n := 64) (by decide) (Nat.mod_lt _ (by decide))
  apply word_ext _ (Nat.or_lt_two_pow (n := 64) (word_lt F _) hlt)
  intro j hj
  rw [Nat.testBit_or, word_bit F _ j hj, Nat.testBit_two_pow]
  unfold setF
  have e : (64 * (i / 64) + j == i) = decide (i % 64 = j) := by
    rw [Bool.eq_iff_iff]; simp; omega
  rw [e, Bool.or_comm]

theorem word_set_other (F : Nat → Bool) (i q : Nat) (h : q ≠ i / 64) : word (setF F i) q = word F q := by
  apply word_congr
  intro j hj
  unfold setF
  have : (64 * q + j == i) = false := by rw [beq_eq_false_iff_ne]; omega
  rw [this, Bool.false_or]


theorem word_and (F : Nat → Bool) (i : Nat) : word F (i / 64) &&& 2 ^ (i % 64) = if F i then 2 ^ (i % 64) else 0 := by
  have hk : i % 64 < 64 := Nat.mod_lt _ (by decide)
  have e : 64 * (i / 64) + i % 64 = i := by omega
  apply Nat.eq_of_testBit_eq
  intro j
  rw [Nat.testBit_and, Nat.testBit_two_pow]
  by_cases h : i % 64 = j
  · subst h
    rw [word_bit F _ _ hk, e]
    cases F i <;> simp
  · simp only [h, decide_false, Bool.and_false]
    split
    · rw [Nat.testBit_two_pow]; simp [h]
    · simp

/-- How many of the first n are marked. -/
def cntG (G : Nat → Bool) : Nat → Nat
  | 0 => 0
  | n + 1 => cntG G n + (if G n then 1 else 0)

theorem cntG_le (G : Nat → Bool) : ∀ n, cntG G n ≤ n
  | 0 => Nat.le_refl _
  | n + 1 => by rw [cntG]; have := cntG_le G n; split <;> omega

theorem cntG_congr (G H : Nat → Bool) : ∀ n, (∀ e, e < n → G e = H e) → cntG G n = cntG H n
  | 0, _ => rfl
  | n + 1, h => by rw [cntG, cntG, cntG_congr G H n fun e he => h e (by omega), h n (by omega)]

theorem cntG_set (G : Nat → Bool) (d : Nat) (hd : G d = false) : ∀ n, d < n → cntG (setF G d) n = cntG G n + 1
  | 0, h => by omega
  | n + 1, h => by
    rw [cntG, cntG]
    by_cases e : d = n
    · subst e
      have h1 : cntG (setF G d) d = cntG G d := cntG_congr _ _ _ fun x hx => by
        unfold setF
        have : (x == d) = false := by rw [beq_eq_false_iff_ne]; omega
        rw [this, Bool.false_or]
      have h2 : setF G d d = true := by simp [setF]
      rw [h1, h2, hd]; simp
    · have h2 : setF G d n = G n := by
        unfold setF
        have : (n == d) = false := by rw [beq_eq_false_iff_ne]; omega
        rw [this, Bool.false_or]
      rw [cntG_set G d hd n (by omega), h2]
      omega

theorem cntG_all (G : Nat → Bool) : ∀ n, cntG G n = n → ∀ e, e < n → G e = true
  | 0, _, e, he => by omega
  | n + 1, h, e, he => by
    rw [cntG] at h
    have := cntG_le G n
    by_cases hn : G n = true
    · rw [hn] at h
      simp at h
      by_cases e1 : e = n
      · subst e1; exact hn
      · exact cntG_all G n h e (by omega)
    · simp [hn] at h
      omega

theorem cntG_zero : ∀ n, cntG (fun _ => false) n = 0
  | 0 => rfl
  | n + 1 => by rw [cntG, cntG_zero n]; simp

/-- The patterns that mark is to mark. -/
def Tgt (T : List ByteArray) (o : Option Nat) (e : Nat) : Prop := ∃ d, o = some d ∧ Txt T e <:+ Txt T d

theorem tgt_out {T : List ByteArray} {u : List UInt8} {o : Option Nat} (h : IsOut T u o) {e : Nat} (he : e < T.length) : Txt T e <:+ u ↔ Tgt T o e := by
  cases o with
  | none =>
    constructor
    · intro h1; exact absurd h1 (h e he)
    · rintro ⟨d, h1, _⟩; cases h1
  | some d =>
    constructor
    · intro h1; exact ⟨d, rfl, h.2.2 e he h1⟩
    · rintro ⟨d', h1, h2⟩
      cases h1
      exact h2.trans h.2.1

/-- A set of marks that holds with a pattern all its suffixes. -/
def Closed (T : List ByteArray) (G : Nat → Bool) : Prop := ∀ e, e < T.length → G e = true → ∀ e', e' < T.length → Txt T e' <:+ Txt T e → G e' = true

/-- Midway in mark. -/
structure MkI (T : List ByteArray) (G0 : Nat → Bool) (o0 : Option Nat) (G : Nat → Bool) (o : Option Nat) (n : Nat) : Prop where
  olt : ∀ d, o = some d → d < T.length
  all : ∀ e, e < T.length → ((G e = true ∨ Tgt T o e) ↔ (G0 e = true ∨ Tgt T o0 e))
  old : ∀ d, o = some d → ∀ e, e < T.length → G e = true → G0 e = true ∨ (Txt T d).length < (Txt T e).length ∨ (Txt T d = [] ∧ e = d)
  sub : ∀ e, G0 e = true → G e = true
  cnt : cntG G T.length = cntG G0 T.length + n

theorem MkI.start {T : List ByteArray} {G : Nat → Bool} {o : Option Nat} (ho : ∀ d, o = some d → d < T.length) : MkI T G o G o 0 :=
  ⟨ho, fun _ _ => Iff.rfl, fun _ _ _ _ h => .inl h, fun _ h => h, rfl⟩

/-- What mark leaves. -/
structure Mkd (T : List ByteArray) (G0 : Nat → Bool) (o0 : Option Nat) (G : Nat → Bool) (n : Nat) : Prop where
  all : ∀ e, e < T.length → (G e = true ↔ (G0 e = true ∨ Tgt T o0 e))
  cnt : cntG G T.length = cntG G0 T.length + n

section
variable {T : List ByteArray} {G0 G : Nat → Bool} {o0 : Option Nat} {n : Nat}

theorem MkI.none (h : MkI T G0 o0 G none n) : Mkd T G0 o0 G n := by
  refine ⟨fun e he => ?_, h.cnt⟩
  rw [← h.all e he]
  constructor
  · exact .inl
  · rintro (h1 | ⟨d, h1, _⟩)
    · exact h1
    · cases h1

theorem MkI.halted {d : Nat} (h : MkI T G0 o0 G (some d) n) (hs : Srt T) (hc : Closed T G0) (hd : G d = true) : Mkd T G0 o0 G n := by
  refine ⟨fun e he => ?_, h.cnt⟩
  rw [← h.all e he]
  constructor
  · exact .inl
  · rintro (h1 | ⟨d', h1, h2⟩)
    · exact h1
    · cases h1
      rcases h.old d rfl d (h.olt d rfl) hd with h3 | h3 | ⟨h3, _⟩
      · exact h.sub e (hc d (h.olt d rfl) h3 e he h2)
      · omega
      · rw [h3, List.suffix_nil] at h2
        rw [txt_inj hs he (h.olt d rfl) (h2.trans h3.symm)]; exact hd

theorem MkI.step {d : Nat} {o' : Option Nat} (h : MkI T G0 o0 G (some d) n) (hs : Srt T) (hd : G d = false) (ho : IsOut T (flink (PP T) (Txt T d)) o') : MkI T G0 o0 (setF G d) o' (n + 1) := by
  have hdl := h.olt d rfl
  have hlt : ∀ d', o' = some d' → d' < T.length := by
    intro d' e; subst e; exact ho.1
  have hset : ∀ e, setF G d e = true ↔ e = d ∨ G e = true := by
    intro e; unfold setF; simp
  refine ⟨hlt, fun e he => ?_, fun d' e' e he hG => ?_, fun e he => (hset e).2 (.inr (h.sub e he)), ?_⟩
  · rw [← h.all e he, hset]
    have key : Tgt T (some d) e ↔ e = d ∨ Tgt T o' e := by
      constructor
      · rintro ⟨d', h1, h2⟩
        cases h1
        by_cases e1 : Txt T e = Txt T d
        · exact .inl (txt_inj hs he hdl e1)
        · exact .inr ((tgt_out ho he).1 (flink_max _ _ h2 e1 (txt_P he (List.prefix_refl _))))
      · rintro (h1 | h1)
        · subst h1; exact ⟨e, rfl, List.suffix_refl _⟩
        · exact ⟨d, rfl, ((tgt_out ho he).2 h1).trans (flink_suffix _)⟩
    rw [key]
    constructor
    · rintro ((h1 | h1) | h1)
      · exact .inr (.inl h1)
      · exact .inl h1
      · exact .inr (.inr h1)
    · rintro (h1 | h1 | h1)
      · exact .inl (.inr h1)
      · exact .inl (.inl h1)
      · exact .inr h1
  · subst e'
    have hsuf := ho.2.1
    have hle := hsuf.length_le
    have hle2 := (flink_suffix (P := PP T) (Txt T d)).length_le
    rcases (hset e).1 hG with h1 | h1
    · subst h1
      by_cases e0 : Txt T e = []
      · right; right
        rw [e0] at hsuf
        have h3 : flink (PP T) ([] : List UInt8) = [] := rfl
        rw [h3, List.suffix_nil] at hsuf
        exact ⟨hsuf, txt_inj hs he (hlt d' rfl) (e0.trans hsuf.symm)⟩
      · right; left
        have := flink_short (P := PP T) (Txt T e) e0
        omega
    · rcases h.old d rfl e he h1 with h2 | h2 | ⟨h2, h3⟩
      · exact .inl h2
      · right; left; omega
      · rw [h3, hd] at h1; cases h1
  · rw [cntG_set G d hd _ hdl, h.cnt]; omega

theorem Mkd.closed (h : Mkd T G0 o0 G n) (hc : Closed T G0) : Closed T G := by
  intro e he hG e' he' hsuf
  rw [h.all e' he']
  rcases (h.all e he).1 hG with h1 | ⟨d, h1, h2⟩
  · exact .inl (hc e he h1 e' he' hsuf)
  · exact .inr ⟨d, h1, hsuf.trans h2⟩
end

/-- The marks behind the first i bytes. -/
def FI (T : List ByteArray) (t : List UInt8) (i : Nat) (G : Nat → Bool) : Prop := ∀ e, e < T.length → (G e = true ↔ ∃ j, j ≤ i ∧ Txt T e <:+ t.take j)

theorem FI.start {T : List ByteArray} {t : List UInt8} {o : Option Nat} {G : Nat → Bool} {n : Nat} (ho : IsOut T [] o) (h : Mkd T (fun _ => false) o G n) : FI T t 0 G := by
  intro e he
  rw [h.all e he, ← tgt_out ho he]
  constructor
  · rintro (h1 | h1)
    · cases h1
    · exact ⟨0, Nat.le_refl _, by simpa using h1⟩
  · rintro ⟨j, h1, h2⟩
    have : j = 0 := by omega
    subst this
    exact .inr (by simpa using h2)

theorem FI.mark {T : List ByteArray} {t u : List UInt8} {i : Nat} {o : Option Nat} {G G' : Nat → Bool} {n : Nat} (h : FI T t i G) (hu : u = lsuf (PP T) (t.take (i + 1))) (ho : IsOut T u o) (hm : Mkd T G o G' n) : FI T t (i + 1) G' := by
  intro e he
  rw [hm.all e he, h e he, ← tgt_out ho he, hu, ← isOut_lsuf he]
  constructor
  · rintro (⟨j, h1, h2⟩ | h1)
    · exact ⟨j, by omega, h2⟩
    · exact ⟨i + 1, Nat.le_refl _, h1⟩
  · rintro ⟨j, h1, h2⟩
    by_cases e1 : j = i + 1
    · subst e1; exact .inr h2
    · exact .inl ⟨j, by omega, h2⟩

theorem FI.none {T : List ByteArray} {t u : List UInt8} {i : Nat} {G : Nat → Bool} (h : FI T t i G) (hu : u = lsuf (PP T) (t.take (i + 1))) (ho : IsOut T u none) : FI T t (i + 1) G := by
  intro e he
  rw [h e he]
  constructor
  · rintro ⟨j, h1, h2⟩; exact ⟨j, by omega, h2⟩
  · rintro ⟨j, h1, h2⟩
    by_cases e1 : j = i + 1
    · subst e1
      rw [isOut_lsuf he, ← hu] at h2
      exact absurd h2 (ho e he)
    · exact ⟨j, by omega, h2⟩

theorem FI.root {T : List ByteArray} {t : List UInt8} {i : Nat} {G : Nat → Bool} (h : FI T t i G) (hu : [] = lsuf (PP T) (t.take (i + 1))) : FI T t (i + 1) G := by
  intro e he
  rw [h e he]
  constructor
  · rintro ⟨j, h1, h2⟩; exact ⟨j, by omega, h2⟩
  · rintro ⟨j, h1, h2⟩
    by_cases e1 : j = i + 1
    · subst e1
      rw [isOut_lsuf he, ← hu] at h2
      exact ⟨0, by omega, by simpa using h2⟩
    · exact ⟨j, by omega, h2⟩

/-- The text is read. -/
theorem FI.fin {T : List ByteArray} {t : List UInt8} {G : Nat → Bool} (h : FI T t t.length G) : ∀ e, e < T.length → (G e = true ↔ occ (Txt T e) t = true) := by
  intro e he
  rw [h e he, occ_take]

/-- Nothing is left to find. -/
theorem FI.full {T : List ByteArray} {t : List UInt8} {i : Nat} {G : Nat → Bool} (h : FI T t i G) (hi : i ≤ t.length) (hc : cntG G T.length = T.length) : ∀ e, e < T.length → (G e = true ↔ occ (Txt T e) t = true) := by
  intro e he
  constructor
  · intro hG
    obtain ⟨j, h1, h2⟩ := (h e he).1 hG
    rw [occ_take]
    exact ⟨j, by omega, h2⟩
  · intro _; exact cntG_all G _ hc e he

theorem lsuf_next {T : List ByteArray} {t : List UInt8} {i : Nat} {c : UInt8} {u : List UInt8} (hu : u = lsuf (PP T) (t.take i)) (hc : t[i]? = some c) : lsuf (PP T) (u ++ [c]) = lsuf (PP T) (t.take (i + 1)) := by
  rw [take_succ_of hc, hu, ← lsuf_step (PP_nil T) (pre_PP T)]
end Go.Proofs.Qxb6001318a.Pl
