/-
  THE PLAIN LAW of the layout: what the kind table says. No Go in sight.
-/
import Derived.Test.Qxb6001183aNoted
namespace Go.Proofs.Qxb6001183a
set_option linter.unusedSimpArgs false
set_option linter.unusedVariables false
namespace Pl

/-- Which bytes stand in the notes. -/
def prE (E : List (UInt8 × Nat)) (c : Nat) : Bool := E.any fun e => e.1.toNat == c

theorem prE_snoc (E : List (UInt8 × Nat)) (c : UInt8) (b x : Nat) : prE (E ++ [(c, b)]) x = (if x = c.toNat then true else prE E x) := by
  unfold prE
  rw [List.any_append]
  by_cases e : x = c.toNat
  · subst e; simp
  · rw [if_neg e]
    have : (c.toNat == x) = false := by rw [beq_eq_false_iff_ne]; omega
    simp [this]

/-- Which classes the first n bytes use. -/
def usd (cls : Nat → Nat) : Nat → Nat → Bool
  | 0, _ => false
  | n + 1, k => usd cls n k || (decide (n ≠ 47) && decide (cls n ≠ 0) && decide (cls n = k))

theorem usd_iff (cls : Nat → Nat) (k : Nat) : ∀ n, (usd cls n k = true ↔ ∃ c, c < n ∧ c ≠ 47 ∧ cls c ≠ 0 ∧ cls c = k)
  | 0 => by simp [usd]
  | n + 1 => by
    rw [usd, Bool.or_eq_true, usd_iff cls k n]
    simp only [Bool.and_eq_true, decide_eq_true_eq]
    constructor
    · rintro (⟨c, h1, h2, h3, h4⟩ | ⟨⟨h1, h2⟩, h3⟩)
      · exact ⟨c, by omega, h2, h3, h4⟩
      · exact ⟨n, by omega, h1, h2, h3⟩
    · rintro ⟨c, h1, h2, h3, h4⟩
      by_cases e : c = n
      · subst e; exact .inr ⟨⟨h2, h3⟩, h4⟩
      · exact .inl ⟨c, by omega, h2, h3, h4⟩

section
variable {cls : Nat → Nat} {nm : Nat} {E : List (UInt8 × Nat)}

theorem byte_of (c : Nat) (h : c < 256) : (UInt8.ofNat c).toNat = c := by simp; omega

theorem CI.pres (h : CI cls nm E) {c : Nat} (hc : c < 256) (h47 : c ≠ 47) : prE E c = decide (cls c ≠ 0) := by
  have hb := byte_of c hc
  have hne : UInt8.ofNat c ≠ 47 := by
    intro e
    have := congrArg UInt8.toNat e
    rw [hb] at this
    exact h47 this
  have hm := h.met (UInt8.ofNat c) hne
  rw [hb] at hm
  rw [Bool.eq_iff_iff, decide_eq_true_eq, hm]
  unfold prE
  rw [List.any_eq_true]
  constructor
  · rintro ⟨⟨d, b⟩, he, hd⟩
    simp only [beq_iff_eq] at hd
    have : d = UInt8.ofNat c := UInt8.toNat_inj.1 (by rw [hb]; exact hd)
    exact ⟨b, this ▸ he⟩
  · rintro ⟨b, he⟩
    exact ⟨_, he, by simp only [beq_iff_eq]; exact hb⟩

theorem CI.zero42 (h : CI cls nm E) : cls 42 = 0 := by
  have hm := h.met 42 (by decide)
  apply Classical.byContradiction
  intro hne
  obtain ⟨b, hb⟩ := hm.1 hne
  exact h.star _ hb rfl

theorem CI.range (h : CI cls nm E) {c : Nat} (hc : c < 256) (h47 : c ≠ 47) (h0 : cls c ≠ 0) : 2 ≤ cls c ∧ cls c < nm := by
  have hb := byte_of c hc
  have hne : UInt8.ofNat c ≠ 47 := by
    intro e
    have := congrArg UInt8.toNat e
    rw [hb] at this
    exact h47 this
  have := h.lo (UInt8.ofNat c) hne (by rw [hb]; exact h0)
  rwa [hb] at this

theorem CI.unused (h : CI cls nm E) {c : Nat} (hc : c < 256) (h0 : cls c ≠ 0) : usd cls c (cls c) = false := by
  rw [Bool.eq_false_iff]
  intro hu
  obtain ⟨d, hd, h1, h2, h3⟩ := (usd_iff cls _ c).1 hu
  have e1 := byte_of c hc
  have e2 := byte_of d (by omega)
  have := h.inj (UInt8.ofNat d) (UInt8.ofNat c) (by rw [e2]; exact h2) (by rw [e1, e2]; exact h3)
  have := congrArg UInt8.toNat this
  rw [e1, e2] at this
  omega

theorem CI.empty0 (h : CI cls nm E) (Y T N : List Nat) (b : Nat) : FF cls E Y T N 3 b = false := by
  rw [show (3 : Nat) = 0 + 3 from rfl, FF_any, List.any_eq_false]
  rintro ⟨d, x⟩ he hx
  simp only [Bool.and_eq_true, beq_iff_eq] at hx
  by_cases e : d = 47
  · subst e
    have := h.slash
    have h2 : cls 47 + 3 = 0 + 3 := hx.2
    omega
  · exact (h.met d e).2 ⟨x, he⟩ (by omega)

theorem usd_skip (n k : Nat) (h : n = 47 ∨ cls n = 0) : usd cls (n + 1) k = usd cls n k := by
  rw [usd]
  rcases h with h | h <;> simp [h]
theorem usd_new (n k : Nat) (h : n ≠ 47) (h0 : cls n ≠ 0) : usd cls (n + 1) k = (if k = cls n then true else usd cls n k) := by
  rw [usd]
  by_cases e : k = cls n
  · subst e; simp [h, h0]
  · rw [if_neg e]
    have : decide (cls n = k) = false := by rw [decide_eq_false_iff_not]; omega
    simp [this]
theorem own_skip (n : Nat) (h : n = 47 ∨ cls n = 0) : own cls (n + 1) = own cls n := by
  rw [own]
  rcases h with h | h <;> simp [h]
theorem own_new (n : Nat) (h : n ≠ 47) (h0 : cls n ≠ 0) : own cls (n + 1) = own cls n + 1 := by
  rw [own, if_pos ⟨h, h0⟩]
end
end Pl
end Go.Proofs.Qxb6001183a
