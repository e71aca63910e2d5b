/-
  BYTES IN ORDER: the order of texts, the longest common beginning, occurrence. No Go in sight.
-/
namespace Go.Proofs.Qxb6001318a.Pl

/-- The order of texts, byte by byte. -/
def ltB : List UInt8 → List UInt8 → Bool
  | [], [] => false
  | [], _ :: _ => true
  | _ :: _, [] => false
  | a :: s, b :: t => if a = b then ltB s t else decide (a < b)

/-- The length of the longest common beginning. -/
def lcp : List UInt8 → List UInt8 → Nat
  | a :: s, b :: t => if a = b then lcp s t + 1 else 0
  | _, _ => 0

/-- p is a run of bytes in t. -/
def occ (p : List UInt8) : List UInt8 → Bool
  | [] => p.isPrefixOf []
  | c :: t => p.isPrefixOf (c :: t) || occ p t

theorem ltB_drop (a b : List UInt8) (i : Nat) (ha : i < a.length) (hb : i < b.length) : ltB (a.drop i) (b.drop i) = if a[i] = b[i] then ltB (a.drop (i + 1)) (b.drop (i + 1)) else decide (a[i] < b[i]) := by
  rw [List.drop_eq_getElem_cons ha, List.drop_eq_getElem_cons hb, ltB]

theorem ltB_end (a b : List UInt8) (i : Nat) (h : i = a.length ∨ i = b.length) (ha : i ≤ a.length) (hb : i ≤ b.length) : ltB (a.drop i) (b.drop i) = decide (a.length < b.length) := by
  rcases h with h | h
  · rw [h, List.drop_length]
    by_cases e : a.length < b.length
    · rw [List.drop_eq_getElem_cons e]; simp [ltB, e]
    · rw [List.drop_eq_nil_of_le (show b.length ≤ a.length by omega)]; simp [ltB, e]
  · rw [h, List.drop_length]
    by_cases e : b.length < a.length
    · rw [List.drop_eq_getElem_cons e]; simp [ltB]; omega
    · rw [List.drop_eq_nil_of_le (show a.length ≤ b.length by omega)]; simp [ltB]; omega

theorem lcp_drop (a b : List UInt8) (i : Nat) (ha : i < a.length) (hb : i < b.length) : lcp (a.drop i) (b.drop i) = if a[i] = b[i] then lcp (a.drop (i + 1)) (b.drop (i + 1)) + 1 else 0 := by
  rw [List.drop_eq_getElem_cons ha, List.drop_eq_getElem_cons hb, lcp]

theorem lcp_end (a b : List UInt8) (i : Nat) (h : a.length ≤ i ∨ b.length ≤ i) : lcp (a.drop i) (b.drop i) = 0 := by
  rcases h with h | h
  · rw [List.drop_eq_nil_of_le h]; simp [lcp]
  · rw [List.drop_eq_nil_of_le h]; cases a.drop i <;> simp [lcp]

theorem lcp_le (a b : List UInt8) : lcp a b ≤ a.length ∧ lcp a b ≤ b.length := by
  induction a generalizing b with
  | nil => simp [lcp]
  | cons x a ih =>
    cases b with
    | nil => simp [lcp]
    | cons y b =>
      rw [lcp]
      by_cases e : x = y
      · rw [if_pos e]; have := ih b; simp; omega
      · rw [if_neg e]; simp

/-- The prefixes up to n agree exactly where n is within the longest common one. -/
theorem take_lcp (a b : List UInt8) : ∀ n, n ≤ a.length → n ≤ b.length → (a.take n = b.take n ↔ n ≤ lcp a b) := by
  induction a generalizing b with
  | nil => intro n h1 h2; simp at h1; subst h1; simp
  | cons x a ih =>
    intro n h1 h2
    cases b with
    | nil => simp at h2; subst h2; simp
    | cons y b =>
      cases n with
      | zero => simp
      | succ n =>
        rw [lcp]
        simp only [List.take_succ_cons, List.cons.injEq]
        by_cases e : x = y
        · rw [if_pos e, ih b n (by simpa using h1) (by simpa using h2)]
          constructor
          · rintro ⟨_, h⟩; omega
          · intro h; exact ⟨e, by omega⟩
        · rw [if_neg e]
          constructor
          · rintro ⟨h, _⟩; exact absurd h e
          · intro h; omega

theorem isPrefixOf_iff (p t : List UInt8) : p.isPrefixOf t = true ↔ ∃ s, p ++ s = t := by
  rw [List.isPrefixOf_iff_prefix]; exact Iff.rfl

theorem occ_iff (p t : List UInt8) : occ p t = true ↔ ∃ u v, u ++ p ++ v = t := by
  induction t with
  | nil =>
    rw [occ, isPrefixOf_iff]
    constructor
    · rintro ⟨s, h⟩; exact ⟨[], s, by simpa using h⟩
    · rintro ⟨u, v, h⟩
      simp at h
      exact ⟨[], by simp [h.2.1]⟩
  | cons c t ih =>
    rw [occ, Bool.or_eq_true, isPrefixOf_iff, ih]
    constructor
    · rintro (⟨s, h⟩ | ⟨u, v, h⟩)
      · exact ⟨[], s, by simpa using h⟩
      · exact ⟨c :: u, v, by simp [← h]⟩
    · rintro ⟨u, v, h⟩
      cases u with
      | nil => exact .inl ⟨v, by simpa using h⟩
      | cons x u =>
        simp only [List.cons_append, List.cons.injEq] at h
        exact .inr ⟨u, v, h.2⟩

theorem occ_short (p t : List UInt8) (h : t.length < p.length) : occ p t = false := by
  rw [Bool.eq_false_iff]
  intro hc
  obtain ⟨u, v, e⟩ := (occ_iff p t).1 hc
  have := congrArg List.length e
  simp at this
  omega

theorem occ_drop (p t : List UInt8) (i : Nat) (h : i ≤ t.length) : occ p (t.drop i) = (p.isPrefixOf (t.drop i) || (decide (i < t.length) && occ p (t.drop (i + 1)))) := by
  by_cases e : i < t.length
  · rw [List.drop_eq_getElem_cons e, occ]; simp [e]
  · rw [List.drop_eq_nil_of_le (by omega), occ]; simp [e]

/-- A beginning, met byte by byte. -/
theorem pre_drop (p t : List UInt8) (j : Nat) (hp : j < p.length) (ht : j < t.length) : (p.drop j).isPrefixOf (t.drop j) = (t[j] == p[j] && (p.drop (j + 1)).isPrefixOf (t.drop (j + 1))) := by
  rw [List.drop_eq_getElem_cons hp, List.drop_eq_getElem_cons ht]
  show (p[j] == t[j] && _) = _
  rw [Bool.beq_comm]
end Go.Proofs.Qxb6001318a.Pl
