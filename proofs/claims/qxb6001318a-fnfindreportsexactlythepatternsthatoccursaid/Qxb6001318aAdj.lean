/-
  NEIGHBOURS THAT ARE ALIKE COUNT ONCE; prefixes of sorted texts. No Go in sight.
-/
import Derived.Test.Qxb6001318aAcPlain
namespace Go.Proofs.Qxb6001318a.Pl
set_option linter.unusedSimpArgs false
set_option linter.unusedVariables false

/-- One more, unless it is the last again. -/
def adjS (acc : List (List UInt8)) (x : List UInt8) : List (List UInt8) := if acc.getLast? = some x then acc else acc ++ [x]
def adj (l : List (List UInt8)) : List (List UInt8) := l.foldl adjS []

theorem adj_nil : adj [] = [] := rfl
theorem adj_snoc (l : List (List UInt8)) (x : List UInt8) : adj (l ++ [x]) = adjS (adj l) x := by unfold adj; rw [List.foldl_append]; rfl

theorem adjS_last (acc : List (List UInt8)) (x : List UInt8) : (adjS acc x).getLast? = some x := by
  unfold adjS
  split
  · assumption
  · simp

theorem adj_last (l : List (List UInt8)) (x : List UInt8) : (adj (l ++ [x])).getLast? = some x := by rw [adj_snoc]; exact adjS_last _ _

theorem adjS_mem (acc : List (List UInt8)) (x y : List UInt8) : y ∈ adjS acc x ↔ y ∈ acc ∨ y = x := by
  unfold adjS
  split
  · rename_i h
    constructor
    · exact .inl
    · rintro (h1 | rfl)
      · exact h1
      · exact List.mem_of_getLast? h
  · simp

/-- Induct from the end. -/
theorem snoc_ind {α : Type} {motive : List α → Prop} (h0 : motive []) (h1 : ∀ l x, motive l → motive (l ++ [x])) (l : List α) : motive l := by
  have key : ∀ n (l : List α), l.length = n → motive l := by
    intro n
    induction n with
    | zero => intro l hl; have := List.length_eq_zero_iff.1 hl; subst this; exact h0
    | succ n ih =>
      intro l hl
      have hne : l ≠ [] := by intro e; subst e; simp at hl
      rw [← List.dropLast_concat_getLast hne]
      exact h1 _ _ (ih _ (by rw [List.length_dropLast]; omega))
  exact key _ l rfl

theorem adj_mem (l : List (List UInt8)) (y : List UInt8) : y ∈ adj l ↔ y ∈ l := by
  induction l using snoc_ind with
  | h0 => simp [adj_nil]
  | h1 l x ih => rw [adj_snoc, adjS_mem, ih]; simp

theorem adjS_len (acc : List (List UInt8)) (x : List UInt8) : acc.length ≤ (adjS acc x).length := by
  unfold adjS
  split
  · exact Nat.le_refl _
  · simp

theorem adj_len (l m : List (List UInt8)) : (adj l).length ≤ (adj (l ++ m)).length := by
  induction m using snoc_ind with
  | h0 => simp
  | h1 m x ih => rw [← List.append_assoc, adj_snoc]; exact Nat.le_trans ih (adjS_len _ _)

/-- In a list in order the neighbours that are alike are all that are. -/
theorem adj_sorted (l : List (List UInt8)) (h : l.Pairwise (fun a b => ltB b a = false)) : (adj l).Pairwise (fun a b => ltB a b = true) := by
  induction l using snoc_ind with
  | h0 => exact List.Pairwise.nil
  | h1 l x ih =>
    rw [List.pairwise_append] at h
    have ih' := ih h.1
    rw [adj_snoc]
    unfold adjS
    split
    · exact ih'
    · rename_i hne
      rw [List.pairwise_append]
      refine ⟨ih', by simp, fun a ha b hb => ?_⟩
      simp at hb; subst hb
      have hax : ltB b a = false := h.2.2 a ((adj_mem l a).1 ha) b (by simp)
      by_cases hc : ltB a b = true
      · exact hc
      · simp only [Bool.not_eq_true] at hc
        have e := ltB_eq a b hc hax
        subst e
        -- a is a member and as great as any: it is the last
        exfalso
        apply hne
        have hnn : adj l ≠ [] := by intro e; rw [e] at ha; simp at ha
        rw [List.getLast?_eq_some_getLast hnn]
        congr 1
        have hl := List.getLast_mem hnn
        have h1 : ltB a ((adj l).getLast hnn) = false := h.2.2 _ ((adj_mem l _).1 hl) a (by simp)
        -- the last is not below a member
        by_cases e2 : (adj l).getLast hnn = a
        · exact e2
        · have hp := ih'
          rw [← List.dropLast_concat_getLast hnn, List.pairwise_append] at hp
          have ha2 : a ∈ (adj l).dropLast := by
            rw [← List.dropLast_concat_getLast hnn] at ha
            rcases List.mem_append.1 ha with h3 | h3
            · exact h3
            · simp at h3; exact absurd h3.symm e2
          have := hp.2.2 a ha2 ((adj l).getLast hnn) (by simp)
          rw [this] at h1; cases h1

/-! ### Prefixes keep the order -/
theorem take_mono (a b : List UInt8) (n : Nat) (h : ltB a b = true) : ltB (b.take n) (a.take n) = false := by
  induction n generalizing a b with
  | zero => rfl
  | succ n ih =>
    cases a with
    | nil => cases b <;> rfl
    | cons x a =>
      cases b with
      | nil => simp [ltB] at h
      | cons y b =>
        rw [List.take_succ_cons, List.take_succ_cons]
        rw [ltB] at h ⊢
        by_cases e : x = y
        · rw [if_pos e] at h; rw [if_pos e.symm]; exact ih a b h
        · rw [if_neg e] at h; rw [if_neg (Ne.symm e)]
          simp only [decide_eq_true_eq] at h
          simp only [decide_eq_false_iff_not]
          rw [UInt8.lt_iff_toNat_lt] at h ⊢
          omega

/-- What lies between two texts that share n bytes shares them too. -/
theorem between (t y x : List UInt8) (n : Nat) (h1 : ltB t y = true) (h2 : ltB y x = true) (ht : n ≤ t.length) (hx : n ≤ x.length) (he : t.take n = x.take n) : n ≤ y.length ∧ y.take n = x.take n := by
  induction n generalizing t y x with
  | zero => exact ⟨Nat.zero_le _, rfl⟩
  | succ n ih =>
    cases t with
    | nil => simp at ht
    | cons a t =>
      cases x with
      | nil => simp at hx
      | cons c x =>
        cases y with
        | nil => simp [ltB] at h1
        | cons b y =>
          simp only [List.take_succ_cons, List.cons.injEq] at he
          obtain ⟨e, he⟩ := he
          subst e
          rw [ltB] at h1 h2
          by_cases e2 : a = b
          · subst e2
            rw [if_pos rfl] at h1 h2
            obtain ⟨i1, i2⟩ := ih t y x h1 h2 (by simpa using ht) (by simpa using hx) he
            exact ⟨by simpa using i1, by simp [i2]⟩
          · rw [if_neg e2] at h1
            rw [if_neg (Ne.symm e2)] at h2
            simp only [decide_eq_true_eq] at h1 h2
            rw [UInt8.lt_iff_toNat_lt] at h1 h2
            omega
end Go.Proofs.Qxb6001318a.Pl
