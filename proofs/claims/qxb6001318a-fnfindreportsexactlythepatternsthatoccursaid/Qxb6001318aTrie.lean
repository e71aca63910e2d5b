/-
  THE STATES BY THEIR NUMBERS: parents, children, labels. No Go in sight.
-/
import Derived.Test.Qxb6001318aLevels
namespace Go.Proofs.Qxb6001318a.Pl
set_option linter.unusedSimpArgs false
set_option linter.unusedVariables false

/-- The state's text. -/
def pf (L : List (List UInt8)) (s : Nat) : List UInt8 := L.getD s []

theorem pf_get {L : List (List UInt8)} {s : Nat} (h : s < L.length) : pf L s = L[s] := by
  unfold pf; rw [List.getD_eq_getElem?_getD, List.getElem?_eq_getElem h]; rfl

section
variable {L : List (List UInt8)}

theorem slt_irrefl (u : List UInt8) : ¬ slt u u := by
  rintro (h | ⟨_, h⟩)
  · omega
  · rw [ltB_irrefl] at h; cases h

theorem slt_asymm {u v : List UInt8} (h : slt u v) : ¬ slt v u := by
  rintro (h2 | ⟨h2, h3⟩)
  · rcases h with h | ⟨h, _⟩ <;> omega
  · rcases h with h | ⟨_, h⟩
    · omega
    · rw [ltB_asymm _ _ h] at h3; cases h3

theorem pf_lt (hL : L.Pairwise slt) {s t : Nat} (h : s < t) (ht : t < L.length) : slt (pf L s) (pf L t) := by
  rw [pf_get (by omega), pf_get ht]
  exact List.pairwise_iff_getElem.1 hL s t (by omega) ht h

theorem pf_inj (hL : L.Pairwise slt) {s t : Nat} (hs : s < L.length) (ht : t < L.length) (h : pf L s = pf L t) : s = t := by
  rcases Nat.lt_trichotomy s t with h1 | h1 | h1
  · have := pf_lt hL h1 ht; rw [h] at this; exact absurd this (slt_irrefl _)
  · exact h1
  · have := pf_lt hL h1 hs; rw [h] at this; exact absurd this (slt_irrefl _)

theorem pf_len (hL : L.Pairwise slt) {s t : Nat} (h : s ≤ t) (ht : t < L.length) : (pf L s).length ≤ (pf L t).length := by
  by_cases e : s = t
  · subst e; exact Nat.le_refl _
  · rcases pf_lt hL (show s < t by omega) ht with h1 | ⟨h1, _⟩ <;> omega

theorem pf_lt_of (hL : L.Pairwise slt) {s t : Nat} (hs : s < L.length) (ht : t < L.length) (h : slt (pf L s) (pf L t)) : s < t := by
  rcases Nat.lt_trichotomy s t with h1 | h1 | h1
  · exact h1
  · subst h1; exact absurd h (slt_irrefl _)
  · exact absurd (pf_lt hL h1 hs) (slt_asymm h)

theorem pf_mem (u : List UInt8) : u ∈ L ↔ ∃ s, s < L.length ∧ pf L s = u := by
  constructor
  · intro h
    obtain ⟨s, hs, e⟩ := List.getElem_of_mem h
    exact ⟨s, hs, by rw [pf_get hs]; exact e⟩
  · rintro ⟨s, hs, e⟩
    rw [pf_get hs] at e
    rw [← e]; exact List.getElem_mem hs
end

/-- What later steps hold in hand of the trie. -/
structure Trie (T : List ByteArray) (L : List (List UInt8)) (par : Nat → Nat) (lab : Nat → UInt8) : Prop where
  sorted : L.Pairwise slt
  root : pf L 0 = []
  pos : 0 < L.length
  mem : ∀ u, u ∈ L ↔ PP T u = true
  par : ∀ s, 0 < s → s < L.length → par s < s ∧ pf L s = pf L (par s) ++ [lab s]

section
variable {T : List ByteArray} {L : List (List UInt8)} {par : Nat → Nat} {lab : Nat → UInt8}

theorem Trie.P (h : Trie T L par lab) {s : Nat} (hs : s < L.length) : PP T (pf L s) = true := (h.mem _).1 ((pf_mem _).2 ⟨s, hs, rfl⟩)
theorem Trie.ex (h : Trie T L par lab) {u : List UInt8} (hu : PP T u = true) : ∃ s, s < L.length ∧ pf L s = u := (pf_mem _).1 ((h.mem _).2 hu)

theorem Trie.zero (h : Trie T L par lab) {s : Nat} (hs : s < L.length) (he : pf L s = []) : s = 0 := pf_inj h.sorted hs h.pos (he.trans h.root.symm)

theorem Trie.mono (h : Trie T L par lab) {s t : Nat} (h0 : 0 < s) (hst : s < t) (ht : t < L.length) : par s ≤ par t := by
  obtain ⟨p1, e1⟩ := h.par s h0 (by omega)
  obtain ⟨p2, e2⟩ := h.par t (by omega) ht
  apply Classical.byContradiction
  intro hc
  have h1 := pf_lt h.sorted (show par t < par s by omega) (by omega)
  have h2 := pf_lt h.sorted hst ht
  rw [e1, e2] at h2
  rcases h2 with h2 | ⟨h2, h3⟩
  · simp at h2
    rcases h1 with h1 | ⟨h1, _⟩ <;> omega
  · simp at h2
    rcases h1 with h1 | ⟨_, h1⟩
    · omega
    · have := take_mono _ _ (pf L (par s)).length h3
      rw [List.take_left, h2, List.take_left] at this
      rw [this] at h1; cases h1

theorem ltB_same (v : List UInt8) (a b : UInt8) (h : ltB (v ++ [a]) (v ++ [b]) = true) : a.toNat < b.toNat := by
  induction v with
  | nil =>
    simp only [List.nil_append, ltB] at h
    by_cases e : a = b
    · rw [if_pos e] at h; cases h
    · rw [if_neg e] at h
      simpa [UInt8.lt_iff_toNat_lt] using h
  | cons x v ih =>
    simp only [List.cons_append, ltB, if_true] at h
    exact ih h

theorem Trie.asc (h : Trie T L par lab) {s t : Nat} (h0 : 0 < s) (hst : s < t) (ht : t < L.length) (hp : par s = par t) : (lab s).toNat < (lab t).toNat := by
  obtain ⟨p1, e1⟩ := h.par s h0 (by omega)
  obtain ⟨p2, e2⟩ := h.par t (by omega) ht
  have h2 := pf_lt h.sorted hst ht
  rw [e1, e2, hp] at h2
  rcases h2 with h2 | ⟨_, h3⟩
  · simp at h2
  · exact ltB_same _ _ _ h3

/-- A child by its label. -/
theorem Trie.child (h : Trie T L par lab) {s j : Nat} {c : UInt8} (hs : s < L.length) (hj0 : 0 < j) (hj : j < L.length) : par j = s ∧ lab j = c ↔ pf L j = pf L s ++ [c] := by
  obtain ⟨p1, e1⟩ := h.par j hj0 hj
  constructor
  · rintro ⟨rfl, rfl⟩; exact e1
  · intro e
    rw [e1] at e
    have := List.append_inj' e rfl
    exact ⟨pf_inj h.sorted (by omega) hs this.1, by simpa using this.2⟩
end

/-! ### The counts -/
/-- How many states from 1 up to n have a parent below s. -/
def cntP (par : Nat → Nat) (s : Nat) : Nat → Nat
  | 0 => 0
  | n + 1 => cntP par s n + (if 0 < n ∧ par n < s then 1 else 0)

theorem cntP_iff (par : Nat → Nat) (s : Nat) : ∀ n, (∀ i j, 0 < i → i < j → j < n → par i ≤ par j) → cntP par s n ≤ n - 1 ∧ ∀ j, 0 < j → j < n → (par j < s ↔ j < 1 + cntP par s n)
  | 0, _ => ⟨Nat.le_refl _, fun j _ h => by omega⟩
  | n + 1, hm => by
    obtain ⟨h1, h2⟩ := cntP_iff par s n fun i j hi hij hj => hm i j hi hij (by omega)
    rw [cntP]
    by_cases hc : 0 < n ∧ par n < s
    · rw [if_pos hc]
      have hall : cntP par s n = n - 1 := by
        by_cases h3 : n = 1
        · subst h3; omega
        · have := (h2 (n - 1) (by omega) (by omega)).1 (Nat.lt_of_le_of_lt (hm (n - 1) n (by omega) (by omega) (by omega)) hc.2)
          omega
      refine ⟨by omega, fun j hj0 hj => ⟨fun _ => by omega, fun _ => ?_⟩⟩
      by_cases e : j = n
      · subst e; exact hc.2
      · exact Nat.lt_of_le_of_lt (hm j n hj0 (by omega) (by omega)) hc.2
    · rw [if_neg hc]
      refine ⟨by omega, fun j hj0 hj => ?_⟩
      by_cases e : j = n
      · subst e
        constructor
        · intro h; exact absurd ⟨hj0, h⟩ hc
        · intro h; omega
      · exact h2 j hj0 (by omega)

/-- first[s]. -/
def fstC (par : Nat → Nat) (n s : Nat) : Nat := 1 + cntP par s n

theorem Trie.first {T : List ByteArray} {L : List (List UInt8)} {par : Nat → Nat} {lab : Nat → UInt8} (h : Trie T L par lab) {s j : Nat} : fstC par L.length s ≤ j ∧ j < fstC par L.length (s + 1) ↔ 0 < j ∧ j < L.length ∧ par j = s := by
  have hm : ∀ i j, 0 < i → i < j → j < L.length → par i ≤ par j := fun i j hi hij hj => h.mono hi hij hj
  obtain ⟨a1, a2⟩ := cntP_iff par s L.length hm
  obtain ⟨b1, b2⟩ := cntP_iff par (s + 1) L.length hm
  have hp := h.pos
  unfold fstC
  constructor
  · rintro ⟨h1, h2⟩
    have hj0 : 0 < j := by omega
    have hj : j < L.length := by omega
    have h3 := (b2 j hj0 hj).2 h2
    have h4 : ¬ par j < s := fun h5 => by have := (a2 j hj0 hj).1 h5; omega
    exact ⟨hj0, hj, by omega⟩
  · rintro ⟨hj0, hj, e⟩
    have h3 := (b2 j hj0 hj).1 (by omega)
    have h4 : ¬ j < 1 + cntP par s L.length := fun h5 => by have := (a2 j hj0 hj).2 h5; omega
    exact ⟨by omega, h3⟩
end Go.Proofs.Qxb6001318a.Pl
