/-
  THE PLAIN LAW of FnValueQuotedRoundTrip: what zzAppendQuoted writes between the quotes. No Go in sight.
-/
namespace Go.Proofs.Qxb6001399a.Quot

/-- The bytes that a backslash goes before. -/
def special (c : UInt8) : Bool := c == 34 || c == 92
/-- One byte, escaped. -/
def q1 (c : UInt8) : List UInt8 := if special c then [92, c] else [c]
/-- A text, escaped. -/
def qs (l : List UInt8) : List UInt8 := l.flatMap q1

theorem qs_cons (c : UInt8) (l : List UInt8) : qs (c :: l) = q1 c ++ qs l := by simp [qs]
theorem qs_append (a b : List UInt8) : qs (a ++ b) = qs a ++ qs b := by simp [qs]

theorem qs_length (l : List UInt8) : l.length ≤ (qs l).length ∧ (qs l).length ≤ 2 * l.length := by
  induction l with
  | nil => simp [qs]
  | cons c l ih =>
    rw [qs_cons, List.length_append, List.length_cons]
    have : 1 ≤ (q1 c).length ∧ (q1 c).length ≤ 2 := by unfold q1; split <;> simp
    omega

theorem take_snoc (l : List UInt8) (k : Nat) (h : k < l.length) : l.take (k + 1) = l.take k ++ [l[k]] :=
  List.take_succ_eq_append_getElem h

theorem qs_take_succ (l : List UInt8) (k : Nat) (h : k < l.length) : qs (l.take (k + 1)) = qs (l.take k) ++ q1 l[k] := by
  rw [take_snoc l k h, qs_append]
  simp [qs]

theorem qs_split (l : List UInt8) (k : Nat) (h : k < l.length) : qs l = qs (l.take k) ++ (q1 l[k] ++ qs (l.drop (k + 1))) := by
  have e : l = l.take k ++ (l[k] :: l.drop (k + 1)) := by
    rw [← List.drop_eq_getElem_cons h, List.take_append_drop]
  have := congrArg qs e
  rw [qs_append, qs_cons] at this
  exact this

theorem special_iff (c : UInt8) : special c = true ↔ (c.toNat = 34 ∨ c.toNat = 92) := by
  simp [special, ← UInt8.toNat_inj]

/-- The whole text: what goes ahead, the quoted string, what comes behind. -/
def full (A l Z : List UInt8) : List UInt8 := A ++ (34 :: (qs l ++ (34 :: Z)))

theorem full_length (A l Z : List UInt8) : (full A l Z).length = A.length + (qs l).length + Z.length + 2 := by
  simp [full]; omega

theorem full_open (A l Z : List UInt8) : (full A l Z)[A.length]? = some 34 := by simp [full]

theorem full_close (A l Z : List UInt8) : (full A l Z)[A.length + 1 + (qs l).length]? = some 34 := by
  unfold full
  rw [List.getElem?_append_right (by omega), show A.length + 1 + (qs l).length - A.length = (qs l).length + 1 from by omega]
  simp

theorem full_in (A l Z : List UInt8) (i : Nat) (h : i < (qs l).length) : (full A l Z)[A.length + 1 + i]? = (qs l)[i]? := by
  unfold full
  rw [List.getElem?_append_right (by omega), show A.length + 1 + i - A.length = i + 1 from by omega, List.getElem?_cons_succ, List.getElem?_append_left h]

theorem at_special (A l Z : List UInt8) (k : Nat) (h : k < l.length) (hs : special l[k] = true) :
    (qs (l.take k)).length + 1 < (qs l).length ∧ (full A l Z)[A.length + 1 + (qs (l.take k)).length]? = some 92 ∧ (full A l Z)[A.length + 1 + (qs (l.take k)).length + 1]? = some l[k] ∧
      (qs (l.take (k + 1))).length = (qs (l.take k)).length + 2 := by
  have e : (qs (l.take k)).length + 1 < (qs l).length := by
    rw [qs_split l k h]; simp [q1, hs]
  refine ⟨e, ?_, ?_, ?_⟩
  · rw [full_in A l Z _ (by omega), qs_split l k h]; simp [q1, hs]
  · rw [Nat.add_assoc _ _ 1, full_in A l Z _ e, qs_split l k h]; simp [q1, hs]
  · rw [qs_take_succ l k h]; simp [q1, hs]

theorem at_plain (A l Z : List UInt8) (k : Nat) (h : k < l.length) (hs : special l[k] = false) :
    (qs (l.take k)).length < (qs l).length ∧ (full A l Z)[A.length + 1 + (qs (l.take k)).length]? = some l[k] ∧
      (qs (l.take (k + 1))).length = (qs (l.take k)).length + 1 := by
  have e : (qs (l.take k)).length < (qs l).length := by
    rw [qs_split l k h]; simp [q1, hs]
  refine ⟨e, ?_, ?_⟩
  · rw [full_in A l Z _ e, qs_split l k h]; simp [q1, hs]
  · rw [qs_take_succ l k h]; simp [q1, hs]

end Go.Proofs.Qxb6001399a.Quot
