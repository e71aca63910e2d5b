/-
  What newPatternSet has noted when it stands at a pattern.
-/
import Derived.Test.Qxb6001183aSt
namespace Go.Proofs.Qxb6001183a
open Go.RowKit
set_option linter.unusedSimpArgs false
set_option linter.unusedVariables false

/-- What has been noted of the first i patterns. -/
def Eall (S : Nat → ByteArray) : Nat → List (UInt8 × Nat)
  | 0 => []
  | i + 1 => Eall S i ++ Pl.evs (fstB S i) (pat S i)
def Yall (S : Nat → ByteArray) : Nat → List Nat
  | 0 => []
  | i + 1 => Yall S i ++ Pl.ys (fstB S i) (pat S i)
def Tall (S : Nat → ByteArray) : Nat → List Nat
  | 0 => []
  | i + 1 => Tall S i ++ [fstB S i]
def Nall (S : Nat → ByteArray) : Nat → List Nat
  | 0 => []
  | i + 1 => Nall S i ++ [lstB S i]

/-- newPatternSet's state when it has noted E, Y, T, M. -/
def St (w : World) (S : Nat → ByteArray) (N W bf bl bs : Nat) (E : List (UInt8 × Nat)) (Y T M : List Nat) (wc : World) : Prop :=
  ∃ cls nm G v, StG w S N W bf bl bs cls nm (Pl.FF cls E Y T M) G v wc ∧ Pl.CI cls nm E

theorem bcomm (l : List Nat) (b i : Nat) : (b == i || l.contains b) = (l ++ [i]).contains b := by
  rw [Bool.eq_iff_iff]; simp; exact Or.comm

theorem FF_start (cls : Nat → Nat) (E : List (UInt8 × Nat)) (Y T M : List Nat) (i x b : Nat) : updF (Pl.FF cls E Y T M) 1 i x b = Pl.FF cls E Y (T ++ [i]) M x b := by
  unfold updF Pl.FF Pl.setF
  by_cases e : x = 1
  · subst e; exact bcomm _ _ _
  · simp [e]
theorem FF_end (cls : Nat → Nat) (E : List (UInt8 × Nat)) (Y T M : List Nat) (i x b : Nat) : updF (Pl.FF cls E Y T M) 2 i x b = Pl.FF cls E Y T (M ++ [i]) x b := by
  unfold updF Pl.FF Pl.setF
  by_cases e : x = 2
  · subst e; exact bcomm _ _ _
  · simp [e]
theorem FF_stay (cls : Nat → Nat) (E : List (UInt8 × Nat)) (Y T M : List Nat) (i x b : Nat) : updF (Pl.FF cls E Y T M) 0 i x b = Pl.FF cls E (Y ++ [i]) T M x b := by
  unfold updF Pl.FF Pl.setF
  by_cases e : x = 0
  · subst e; exact bcomm _ _ _
  · simp [e]
theorem FF_move (cls : Nat → Nat) (E : List (UInt8 × Nat)) (Y T M : List Nat) (c : UInt8) (i x b : Nat) : updF (Pl.FF cls E Y T M) (3 + cls c.toNat) i x b = Pl.FF cls (E ++ [(c, i)]) Y T M x b := by
  unfold updF Pl.setF
  by_cases e : x = 3 + cls c.toNat
  · subst e
    rw [if_pos rfl, show 3 + cls c.toNat = cls c.toNat + 3 from by omega, Pl.FF_any, Pl.FF_any, List.any_append]
    rw [Bool.or_comm]
    congr 1
    rw [Bool.eq_iff_iff]; simp; exact eq_comm
  · rw [if_neg e]
    unfold Pl.FF
    by_cases e0 : x = 0
    · simp [e0]
    by_cases e1 : x = 1
    · simp [e1]
    by_cases e2 : x = 2
    · simp [e2]
    rw [if_neg e0, if_neg e1, if_neg e2, if_neg e0, if_neg e1, if_neg e2, List.any_append]
    have : (cls c.toNat + 3 == x) = false := by rw [beq_eq_false_iff_ne]; omega
    simp [this]


theorem FF_fresh {cls : Nat → Nat} {nm : Nat} {E : List (UInt8 × Nat)} {Y T M : List Nat} (h : Pl.CI cls nm E) (c : UInt8) (h0 : cls c.toNat = 0) {n : Nat} (hn : c.toNat = n) (x b : Nat) :
    Pl.FF cls E Y T M x b = Pl.FF (Pl.setCls cls n nm) E Y T M x b := by
  subst hn
  unfold Pl.FF
  by_cases e0 : x = 0
  · simp [e0]
  by_cases e1 : x = 1
  · simp [e1]
  by_cases e2 : x = 2
  · simp [e2]
  rw [if_neg e0, if_neg e1, if_neg e2, if_neg e0, if_neg e1, if_neg e2]
  exact (Pl.any_fresh h c h0 x b).symm
end Go.Proofs.Qxb6001183a
