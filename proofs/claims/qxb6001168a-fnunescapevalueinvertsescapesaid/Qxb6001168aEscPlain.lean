/-
  THE PLAIN LAW of FnUnescapeValueInvertsEscape: what zzEscape writes, byte by byte. No Go in sight.
-/
namespace Go.Proofs.Qxb6001168a.Esc

/-- The bytes that a backslash goes before. -/
def special (c : UInt8) : Bool := c == 92 || c == 44 || c == 61
/-- One byte, escaped. -/
def esc1 (c : UInt8) : List UInt8 := if special c then [92, c] else [c]
/-- A text, escaped. -/
def esc (l : List UInt8) : List UInt8 := l.flatMap esc1

theorem esc_nil : esc [] = [] := rfl
theorem esc_cons (c : UInt8) (l : List UInt8) : esc (c :: l) = esc1 c ++ esc l := by simp [esc]
theorem esc_append (a b : List UInt8) : esc (a ++ b) = esc a ++ esc b := by simp [esc]

theorem esc1_length (c : UInt8) : 1 ≤ (esc1 c).length ∧ (esc1 c).length ≤ 2 := by
  unfold esc1; split <;> simp

theorem esc_length (l : List UInt8) : l.length ≤ (esc l).length ∧ (esc l).length ≤ 2 * l.length := by
  induction l with
  | nil => simp [esc]
  | cons c l ih =>
    rw [esc_cons, List.length_append, List.length_cons]
    have := esc1_length c
    omega

theorem take_snoc (l : List UInt8) (k : Nat) (h : k < l.length) : l.take (k + 1) = l.take k ++ [l[k]] :=
  List.take_succ_eq_append_getElem h

theorem esc_take_succ (l : List UInt8) (k : Nat) (h : k < l.length) : esc (l.take (k + 1)) = esc (l.take k) ++ esc1 l[k] := by
  rw [take_snoc l k h, esc_append]
  simp [esc]

/-- The whole text, cut at its k-th byte. -/
theorem esc_split (l : List UInt8) (k : Nat) (h : k < l.length) : esc l = esc (l.take k) ++ (esc1 l[k] ++ esc (l.drop (k + 1))) := by
  have e : l = l.take k ++ (l[k] :: l.drop (k + 1)) := by
    rw [← List.drop_eq_getElem_cons h, List.take_append_drop]
  have := congrArg esc e
  rw [esc_append, esc_cons] at this
  exact this

theorem special_iff (c : UInt8) : special c = true ↔ (c.toNat = 92 ∨ c.toNat = 44 ∨ c.toNat = 61) := by
  simp [special, ← UInt8.toNat_inj, or_assoc]

/-- At the place of the k-th byte: a backslash and the byte, if it is special. -/
theorem esc_at_special (l : List UInt8) (k : Nat) (h : k < l.length) (hs : special l[k] = true) :
    (esc (l.take k)).length + 1 < (esc l).length ∧ (esc l)[(esc (l.take k)).length]? = some 92 ∧ (esc l)[(esc (l.take k)).length + 1]? = some l[k] ∧
      (esc (l.take (k + 1))).length = (esc (l.take k)).length + 2 := by
  rw [esc_take_succ l k h, esc_split l k h]
  simp [esc1, hs]

/-- .. or the byte itself, if it is not. -/
theorem esc_at_plain (l : List UInt8) (k : Nat) (h : k < l.length) (hs : special l[k] = false) :
    (esc (l.take k)).length < (esc l).length ∧ (esc l)[(esc (l.take k)).length]? = some l[k] ∧
      (esc (l.take (k + 1))).length = (esc (l.take k)).length + 1 := by
  rw [esc_take_succ l k h, esc_split l k h]
  simp [esc1, hs]

end Go.Proofs.Qxb6001168a.Esc
