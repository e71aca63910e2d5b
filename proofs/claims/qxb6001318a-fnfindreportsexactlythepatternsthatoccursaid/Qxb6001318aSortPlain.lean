/-
  THE PLAIN LAWS of the merge sort. No Go in sight.
-/
import Derived.Test.Qxb6001318aLex
namespace Go.Proofs.Qxb6001318a.Pl
set_option linter.unusedSimpArgs false
set_option linter.unusedVariables false

/-! ### The order is a total one -/
theorem ltB_irrefl (a : List UInt8) : ltB a a = false := by
  induction a with
  | nil => rfl
  | cons x a ih => rw [ltB, if_pos rfl, ih]

theorem ltB_asymm (a b : List UInt8) (h : ltB a b = true) : ltB b a = false := by
  induction a generalizing b with
  | nil =>
    cases b with
    | nil => rfl
    | cons y b => rfl
  | cons x a ih =>
    cases b with
    | nil => simp [ltB] at h
    | cons y b =>
      rw [ltB] at h ⊢
      by_cases e : x = y
      · rw [if_pos e] at h; rw [if_pos e.symm]; exact ih b h
      · rw [if_neg e] at h; rw [if_neg (Ne.symm e)]
        simp only [decide_eq_true_eq] at h
        simp only [decide_eq_false_iff_not]
        rw [UInt8.lt_iff_toNat_lt] at h ⊢
        omega

/-- 'not greater' goes on. -/
theorem ltB_ntrans (a b c : List UInt8) (h1 : ltB b a = false) (h2 : ltB c b = false) : ltB c a = false := by
  induction a generalizing b c with
  | nil => cases c <;> rfl
  | cons x a ih =>
    cases b with
    | nil => simp [ltB] at h1
    | cons y b =>
      cases c with
      | nil => simp [ltB] at h2
      | cons z c =>
        rw [ltB] at h1 h2 ⊢
        by_cases e1 : y = x
        · rw [if_pos e1] at h1
          by_cases e2 : z = y
          · rw [if_pos e2] at h2
            rw [if_pos (e2.trans e1)]
            exact ih b c h1 h2
          · rw [if_neg e2] at h2
            subst e1
            rw [if_neg e2]; exact h2
        · rw [if_neg e1] at h1
          by_cases e2 : z = y
          · subst e2; rw [if_neg e1]; exact h1
          · rw [if_neg e2] at h2
            simp only [decide_eq_false_iff_not] at h1 h2
            have e3 : z ≠ x := by
              intro e; subst e
              have h3 : y.toNat ≠ z.toNat := fun e => e1 (UInt8.toNat_inj.1 e)
              rw [UInt8.lt_iff_toNat_lt] at h1 h2
              omega
            rw [if_neg e3]
            simp only [decide_eq_false_iff_not]
            rw [UInt8.lt_iff_toNat_lt] at h1 h2 ⊢
            omega

theorem ltB_eq (a b : List UInt8) (h1 : ltB a b = false) (h2 : ltB b a = false) : a = b := by
  induction a generalizing b with
  | nil =>
    cases b with
    | nil => rfl
    | cons y b => simp [ltB] at h1
  | cons x a ih =>
    cases b with
    | nil => simp [ltB] at h2
    | cons y b =>
      rw [ltB] at h1 h2
      by_cases e : x = y
      · rw [if_pos e] at h1; rw [if_pos e.symm] at h2
        rw [e, ih b h1 h2]
      · rw [if_neg e] at h1; rw [if_neg (Ne.symm e)] at h2
        simp only [decide_eq_false_iff_not] at h1 h2
        rw [UInt8.lt_iff_toNat_lt] at h1 h2
        exact absurd (UInt8.toNat_inj.1 (by omega)) e

/-! ### Segments, blocks -/
def seg (X : List Nat) (i m : Nat) : List Nat := (X.take m).drop i

theorem seg_cons (X : List Nat) (i m : Nat) (h : i < m) (hm : m ≤ X.length) : seg X i m = X.getD i 0 :: seg X (i + 1) m := by
  unfold seg
  have hl : i < (X.take m).length := by rw [List.length_take]; omega
  rw [List.drop_eq_getElem_cons hl, List.getElem_take, List.getD_eq_getElem?_getD, List.getElem?_eq_getElem (by omega)]
  rfl

theorem seg_nil (X : List Nat) (i m : Nat) (h : m ≤ i) : seg X i m = [] := by
  unfold seg
  exact List.drop_eq_nil_of_le (by rw [List.length_take]; omega)

theorem seg_length (X : List Nat) (i m : Nat) (h : i ≤ m) (hm : m ≤ X.length) : (seg X i m).length = m - i := by
  unfold seg; rw [List.length_drop, List.length_take]; omega

theorem seg_append (X : List Nat) (i j m : Nat) (h1 : i ≤ j) (h2 : j ≤ m) (hm : m ≤ X.length) : seg X i j ++ seg X j m = seg X i m := by
  unfold seg
  have e1 : (X.take m).drop i = ((X.take m).take j).drop i ++ (X.take m).drop j := by
    conv => lhs; rw [← List.take_append_drop j (X.take m)]
    rw [List.drop_append_of_le_length (by rw [List.length_take, List.length_take]; omega)]
  rw [e1, List.take_take, Nat.min_eq_left h2]

def Blk (le : Nat → Nat → Bool) (w : Nat) (Y : List Nat) : Prop := ∀ t, ((Y.drop (w * t)).take w).Pairwise (fun a b => le a b = true)

theorem blk_one (le : Nat → Nat → Bool) (X : List Nat) : Blk le 1 X := by
  intro t
  generalize X.drop (1 * t) = l
  cases l with
  | nil => simp
  | cons x l => simp

theorem blk_all {le : Nat → Nat → Bool} {w : Nat} {X : List Nat} (h : Blk le w X) (hl : X.length ≤ w) : X.Pairwise (fun a b => le a b = true) := by
  have := h 0
  rw [Nat.mul_zero, List.drop_zero, List.take_of_length_le hl] at this
  exact this

theorem blk_seg {le : Nat → Nat → Bool} {w : Nat} {X : List Nat} (h : Blk le w X) (t m : Nat) (hm : m = min (w * t + w) X.length) : (seg X (w * t) m).Pairwise (fun a b => le a b = true) := by
  have e : seg X (w * t) m = (X.drop (w * t)).take w := by
    unfold seg
    rw [List.drop_take]
    subst hm
    by_cases hc : w * t + w ≤ X.length
    · rw [Nat.min_eq_left hc]; congr 1; omega
    · rw [Nat.min_eq_right (by omega), List.take_of_length_le (by rw [List.length_drop]; omega), List.take_of_length_le (by rw [List.length_drop]; omega)]
  rw [e]; exact h t

theorem blk_append {le : Nat → Nat → Bool} {w q : Nat} {Y Z : List Nat} (h : Blk le w Y) (hY : Y.length = w * q) (hZ : Z.Pairwise (fun a b => le a b = true)) (hl : Z.length ≤ w) : Blk le w (Y ++ Z) := by
  intro t
  rcases Nat.lt_trichotomy t q with ht | ht | ht
  · have h1 : w * t + w ≤ Y.length := by
      rw [hY]
      have := Nat.mul_le_mul_left w (show t + 1 ≤ q from ht)
      rw [Nat.mul_add, Nat.mul_one] at this
      exact this
    rw [List.drop_append_of_le_length (by omega), List.take_append_of_le_length (by rw [List.length_drop]; omega)]
    exact h t
  · subst ht
    rw [← hY, List.drop_left, List.take_of_length_le hl]
    exact hZ
  · have h1 : (Y ++ Z).length ≤ w * t := by
      rw [List.length_append, hY]
      have := Nat.mul_le_mul_left w (show q + 1 ≤ t from ht)
      rw [Nat.mul_add, Nat.mul_one] at this
      omega
    rw [List.drop_eq_nil_of_le h1]
    simp

/-! ### One step of the merge -/
theorem merge_left_end (le : Nat → Nat → Bool) (X : List Nat) (i mid j hi : Nat) (hi1 : i < mid) (hm : mid ≤ X.length) (hj : hi ≤ j) : (seg X i mid).merge (seg X j hi) le = X.getD i 0 :: (seg X (i + 1) mid).merge (seg X j hi) le := by
  rw [seg_nil X j hi hj, seg_cons X i mid hi1 hm]; simp

theorem merge_right_end (le : Nat → Nat → Bool) (X : List Nat) (i mid j hi : Nat) (hi1 : mid ≤ i) (hh : hi ≤ X.length) (hj : j < hi) : (seg X i mid).merge (seg X j hi) le = X.getD j 0 :: (seg X i mid).merge (seg X (j + 1) hi) le := by
  rw [seg_nil X i mid hi1, seg_cons X j hi hj hh]; simp

theorem merge_left (le : Nat → Nat → Bool) (X : List Nat) (i mid j hi : Nat) (hi1 : i < mid) (hm : mid ≤ X.length) (hh : hi ≤ X.length) (hj : j < hi) (h : le (X.getD i 0) (X.getD j 0) = true) : (seg X i mid).merge (seg X j hi) le = X.getD i 0 :: (seg X (i + 1) mid).merge (seg X j hi) le := by
  rw [seg_cons X i mid hi1 hm, seg_cons X j hi hj hh, List.cons_merge_cons, if_pos h]

theorem merge_right (le : Nat → Nat → Bool) (X : List Nat) (i mid j hi : Nat) (hi1 : i < mid) (hm : mid ≤ X.length) (hh : hi ≤ X.length) (hj : j < hi) (h : le (X.getD i 0) (X.getD j 0) = false) : (seg X i mid).merge (seg X j hi) le = X.getD j 0 :: (seg X i mid).merge (seg X (j + 1) hi) le := by
  rw [seg_cons X i mid hi1 hm, seg_cons X j hi hj hh, List.cons_merge_cons, if_neg (by rw [h]; decide)]

/-- 'not greater', of two patterns' numbers. -/
def leS (S : Nat → ByteArray) (i j : Nat) : Bool := !ltB (S j).data.toList (S i).data.toList

theorem leS_trans (S : Nat → ByteArray) (a b c : Nat) (h1 : leS S a b = true) (h2 : leS S b c = true) : leS S a c = true := by
  unfold leS at *
  simp only [Bool.not_eq_true'] at *
  exact ltB_ntrans _ _ _ h1 h2

theorem leS_total (S : Nat → ByteArray) (a b : Nat) : (leS S a b || leS S b a) = true := by
  unfold leS
  by_cases h : ltB (S b).data.toList (S a).data.toList = true
  · rw [ltB_asymm _ _ h]; simp
  · simp only [Bool.not_eq_true] at h; simp [h]

/-- What a pass has done up to lo: a permutation of the beginning, its blocks of width 2 * w in order. -/
def Pass (S : Nat → ByteArray) (w : Nat) (X : List Nat) (lo : Nat) (Y : List Nat) : Prop := Y.Perm (X.take lo) ∧ Blk (leS S) (2 * w) Y

theorem pass_start (S : Nat → ByteArray) (w : Nat) (X : List Nat) : Pass S w X 0 [] := by
  refine ⟨by simp, fun t => by simp⟩

theorem pass_step {S : Nat → ByteArray} {w : Nat} {X Y Z : List Nat} {q mid hi : Nat} (h : Pass S w X (2 * w * q) Y) (hb : Blk (leS S) w X) (hlo : 2 * w * q < X.length) (hw : 0 < w)
    (hmid : mid = min (2 * w * q + w) X.length) (hhi : hi = min (2 * w * q + 2 * w) X.length) (hZ : Z = (seg X (2 * w * q) mid).merge (seg X mid hi) (leS S)) : Pass S w X hi (Y ++ Z) := by
  obtain ⟨hp, hk⟩ := h
  have e1 : 2 * w * q = w * (2 * q) := by rw [Nat.mul_comm 2 w, Nat.mul_assoc]
  have hYl : Y.length = 2 * w * q := by rw [hp.length_eq, List.length_take]; omega
  have s1 : (seg X (2 * w * q) mid).Pairwise (fun a b => leS S a b = true) := by
    rw [e1] at hmid ⊢
    exact blk_seg hb (2 * q) mid hmid
  have s2 : (seg X mid hi).Pairwise (fun a b => leS S a b = true) := by
    by_cases hc : 2 * w * q + w < X.length
    · have e2 : mid = w * (2 * q + 1) := by rw [hmid, Nat.min_eq_left (by omega), e1, Nat.mul_add, Nat.mul_one]
      rw [e2]
      refine blk_seg hb (2 * q + 1) hi ?_
      rw [hhi, Nat.mul_add, Nat.mul_one, ← e1]
      congr 1; omega
    · rw [seg_nil X mid hi (by omega)]; exact List.Pairwise.nil
  have hml : mid ≤ hi := by omega
  have hlm : 2 * w * q ≤ mid := by omega
  refine ⟨?_, blk_append hk hYl ?_ ?_⟩
  · have e3 : X.take hi = X.take (2 * w * q) ++ seg X (2 * w * q) hi := by
      unfold seg
      conv => lhs; rw [← List.take_append_drop (2 * w * q) (X.take hi)]
      rw [List.take_take, Nat.min_eq_left (by omega)]
    rw [e3, ← seg_append X (2 * w * q) mid hi hlm hml (by omega), hZ]
    exact hp.append (List.merge_perm_append _)
  · rw [hZ]; exact List.pairwise_merge (leS_trans S) (leS_total S) _ _ s1 s2
  · rw [hZ, List.length_merge, seg_length _ _ _ hlm (by omega), seg_length _ _ _ hml (by omega)]
    omega

theorem pass_end {S : Nat → ByteArray} {w : Nat} {X Y : List Nat} {lo : Nat} (h : Pass S w X lo Y) (hl : X.length ≤ lo) : Y.Perm X ∧ Blk (leS S) (2 * w) Y := by
  obtain ⟨hp, hk⟩ := h
  rw [List.take_of_length_le hl] at hp
  exact ⟨hp, hk⟩
end Go.Proofs.Qxb6001318a.Pl
