/-
  THE PLAIN LAWS of the distinct patterns in order. No Go in sight.
-/
import Derived.Test.Qxb6001318aSortPlain
namespace Go.Proofs.Qxb6001318a
set_option linter.unusedSimpArgs false
set_option linter.unusedVariables false
namespace Pl

theorem ltB_trans (a b c : List UInt8) (h1 : ltB a b = true) (h2 : ltB b c = true) : ltB a c = true := by
  by_cases h : ltB a c = true
  · exact h
  · simp only [Bool.not_eq_true] at h
    -- c ≤ a and a < b give c < b, against b < c
    have h3 := ltB_asymm _ _ h2
    have h4 : ltB b a = false := ltB_asymm _ _ h1
    have h5 := ltB_ntrans c a b h h4
    rw [h5] at h2
    cases h2

/-- The bytes of a text. -/
def tb (t : ByteArray) : List UInt8 := t.data.toList

theorem tb_inj {a b : ByteArray} (h : tb a = tb b) : a = b := by
  cases a; cases b
  unfold tb at h
  simp only [ByteArray.mk.injEq]
  exact Array.toList_inj.1 h

/-- The states that the texts of a list add behind one that is there. -/
def cnt (prev : List UInt8) : List ByteArray → Nat
  | [] => 0
  | t :: T => ((tb t).length - lcp (tb t) prev) + cnt (tb t) T

/-- The last text's bytes. -/
def lastB (prev : List UInt8) : List ByteArray → List UInt8
  | [] => prev
  | t :: T => lastB (tb t) T

theorem cnt_snoc (x : ByteArray) : ∀ (T : List ByteArray) (prev : List UInt8), cnt prev (T ++ [x]) = cnt prev T + ((tb x).length - lcp (tb x) (lastB prev T))
  | [], prev => by simp [cnt, lastB]
  | t :: T, prev => by
    show ((tb t).length - lcp (tb t) prev) + cnt (tb t) (T ++ [x]) = _
    rw [cnt_snoc x T (tb t)]
    simp only [cnt, lastB]
    omega

theorem lastB_snoc (x : ByteArray) : ∀ (T : List ByteArray) (prev : List UInt8), lastB prev (T ++ [x]) = tb x
  | [], prev => rfl
  | t :: T, prev => lastB_snoc x T (tb t)

/-- What stands when the patterns of a list of numbers, in order, have been met. -/
structure DI (S : Nat → ByteArray) (l : List Nat) (T : List ByteArray) (D : Nat → Nat) : Prop where
  sorted : T.Pairwise (fun a b => ltB (tb a) (tb b) = true)
  from' : ∀ t ∈ T, ∃ i ∈ l, t = S i
  at' : ∀ i ∈ l, ∃ h : D i < T.length, T[D i] = S i
  len : T.length ≤ l.length
  last : T = [] ∧ l = [] ∨ ∃ i U, l = U ++ [i] ∧ ∃ V, T = V ++ [S i]
  sum : cnt [] T ≤ (l.map fun i => (S i).size).sum

theorem DI.start (S : Nat → ByteArray) (D : Nat → Nat) : DI S [] [] D := ⟨List.Pairwise.nil, by simp, by simp, by simp, .inl ⟨rfl, rfl⟩, by simp [cnt]⟩

variable {S : Nat → ByteArray} {l : List Nat} {T : List ByteArray} {D : Nat → Nat}

/-- The new pattern is the last text. -/
theorem DI.same (h : DI S l T D) {x : Nat} (hx : x ∉ l) {V : List ByteArray} (hT : T = V ++ [S x]) : DI S (l ++ [x]) T (fun i => if i = x then T.length - 1 else D i) := by
  have hlen : T.length = V.length + 1 := by rw [hT]; simp
  refine ⟨h.sorted, fun t ht => ?_, fun i hi => ?_, by have := h.len; simp; omega, .inr ⟨x, l, rfl, V, hT⟩, ?_⟩
  · obtain ⟨i, hi, e⟩ := h.from' t ht
    exact ⟨i, by simp [hi], e⟩
  · by_cases e : i = x
    · subst e
      refine ⟨by rw [if_pos rfl]; omega, ?_⟩
      simp only [if_pos, hT]
      simp
    · have hi' : i ∈ l := by
        rcases List.mem_append.1 hi with h1 | h1
        · exact h1
        · simp at h1; exact absurd h1 e
      obtain ⟨h1, h2⟩ := h.at' i hi'
      exact ⟨by rw [if_neg e]; exact h1, by simp only [if_neg e]; exact h2⟩
  · have := h.sum
    simp only [List.map_append, List.sum_append]
    omega

/-- The new pattern is a text of its own. -/
theorem DI.new (h : DI S l T D) {x : Nat} (hx : x ∉ l) (hs : ∀ i ∈ l, leS S i x = true) (hne : ∀ V, T ≠ V ++ [S x]) : DI S (l ++ [x]) (T ++ [S x]) (fun i => if i = x then T.length else D i) := by
  have hlt : ∀ t ∈ T, ltB (tb t) (tb (S x)) = true := by
    rcases h.last with ⟨h1, _⟩ | ⟨i, U, hl, V, hV⟩
    · rw [h1]; simp
    · have hle : leS S i x = true := hs i (by rw [hl]; simp)
      have hlast : ltB (tb (S i)) (tb (S x)) = true := by
        by_cases hc : ltB (tb (S i)) (tb (S x)) = true
        · exact hc
        · simp only [Bool.not_eq_true] at hc
          unfold leS at hle
          simp only [Bool.not_eq_true'] at hle
          have e := ltB_eq (tb (S i)) (tb (S x)) hc hle
          exact absurd (by rw [hV, tb_inj e]) (hne V)
      intro t ht
      rw [hV] at ht
      rcases List.mem_append.1 ht with h1 | h1
      · have hp := h.sorted
        rw [hV, List.pairwise_append] at hp
        exact ltB_trans _ _ _ (hp.2.2 t h1 (S i) (by simp)) hlast
      · simp at h1; subst h1; exact hlast
  refine ⟨?_, fun t ht => ?_, fun i hi => ?_, by have := h.len; simp; omega, .inr ⟨x, l, rfl, T, rfl⟩, ?_⟩
  · rw [List.pairwise_append]
    exact ⟨h.sorted, by simp, fun a ha b hb => by simp at hb; subst hb; exact hlt a ha⟩
  · rcases List.mem_append.1 ht with h1 | h1
    · obtain ⟨i, hi, e⟩ := h.from' t h1
      exact ⟨i, by simp [hi], e⟩
    · simp at h1; exact ⟨x, by simp, h1⟩
  · by_cases e : i = x
    · subst e
      refine ⟨by rw [if_pos rfl]; simp, ?_⟩
      simp
    · have hi' : i ∈ l := by
        rcases List.mem_append.1 hi with h1 | h1
        · exact h1
        · simp at h1; exact absurd h1 e
      obtain ⟨h1, h2⟩ := h.at' i hi'
      refine ⟨by rw [if_neg e]; simp; omega, ?_⟩
      simp only [if_neg e]
      rw [List.getElem_append_left h1]; exact h2
  · have := h.sum
    rw [cnt_snoc]
    simp only [List.map_append, List.sum_append, List.map_cons, List.map_nil, List.sum_cons, List.sum_nil]
    have hl : (tb (S x)).length = (S x).size := by simp [tb]
    omega
end Pl
end Go.Proofs.Qxb6001318a
