/-
  THE WALKS of the byte tests: zzIsAlphaNum, isAlphaNum, zzIsTokenByte, isTokenChar.
-/
import Derived.Test.Qxb6001399aRows
import Derived.WalkKit
import Derived.WalkSpells
import Derived.WalkLawsBesides
import Derived.BigCall
import Derived.Lib.Bytealg
namespace Go.Proofs.Qxb6001399a
open Go.RowKit
set_option linter.unusedSimpArgs false

/-- A letter or a digit. -/
def alnum (n : Int) : Bool := (decide (97 ≤ n) && decide (n ≤ 122)) || (decide (65 ≤ n) && decide (n ≤ 90)) || (decide (48 ≤ n) && decide (n ≤ 57))
/-- RFC 9110's other token bytes. -/
def tokList : List UInt8 := [33, 35, 36, 37, 38, 39, 42, 43, 45, 46, 94, 95, 96, 124, 126]
/-- A token byte. -/
def tok (c : UInt8) : Bool := alnum c.toNat || tokList.contains c

theorem ret_bool {a b : Bool} (h : a = true ↔ b = true) : Ending.returned (.bool a) = .returned (.bool b) := by rw [Bool.eq_iff_iff.2 h]

theorem alnum_law (n : Int) (w : World) : Calls Try.prog 13 #[.int .u8 n] w fun e w' => e = .returned (.bool (alnum n)) ∧ w' = w := by
  go_enter Try.func13, Try.ntmps13
  go_wp2
  all_goals
    go_ret
    refine ⟨ret_bool ?_, rfl⟩
    simp [alnum, *]
    try omega

theorem alnum_reg (n : Int) (w : World) : Calls Try.prog 20 #[.int .u8 n] w fun e w' => e = .returned (.bool (alnum n)) ∧ w' = w := by
  go_enter Try.func20, Try.ntmps20
  go_wp2
  all_goals
    go_ret
    refine ⟨ret_bool ?_, rfl⟩
    simp [alnum, *]
    try omega

theorem tok_iff (c : UInt8) : tok c = true ↔ alnum c.toNat = true ∨ ((c.toNat : Int) = 33 ∨ (c.toNat : Int) = 35 ∨ (c.toNat : Int) = 36 ∨ (c.toNat : Int) = 37 ∨ (c.toNat : Int) = 38 ∨ (c.toNat : Int) = 39 ∨ (c.toNat : Int) = 42 ∨ (c.toNat : Int) = 43 ∨ (c.toNat : Int) = 45 ∨ (c.toNat : Int) = 46 ∨ (c.toNat : Int) = 94 ∨ (c.toNat : Int) = 95 ∨ (c.toNat : Int) = 96 ∨ (c.toNat : Int) = 124 ∨ (c.toNat : Int) = 126) := by
  simp only [tok, tokList]
  generalize alnum c.toNat = a
  cases a <;> simp [← UInt8.toNat_inj] <;> omega

/-- zzIsTokenByte. -/
theorem tok_law (c : UInt8) (w : World) : Calls Try.prog 10 #[.int .u8 (c.toNat : Int)] w fun e w' => e = .returned (.bool (tok c)) ∧ w' = w := by
  have HT : Hid _ := tok_iff c
  cases ha : alnum c.toNat
  all_goals
    go_enter Try.func10, Try.ntmps10
    go_wp2_with (go_at_call 13; refine (alnum_law _ _).mono ?_; rintro e w' ⟨rfl, rfl⟩)
    all_goals
      go_ret
      refine ⟨ret_bool ?_, rfl⟩
      rw [HT.out]
      simp only [ha, Bool.false_eq_true, true_or, false_or, iff_true, true_iff, iff_false, false_iff]
      try (simp only [beq_iff_eq, beq_eq_false_iff_ne, ne_eq, Bool.not_eq_true] at *; omega)

/-- isTokenChar: strings.IndexByte by its contract. -/
def SaidIndexByte : Prop := ∀ (s : ByteArray) (c : Int) (w : World),
    Calls Try.prog 21 #[.string s, .int .u8 c] w fun e w' => e = .returned (.int .i64 (Lib.indexByte s.data.toList c.toNat.toUInt8)) ∧ w' = w

theorem indexByte_nonneg (l : List UInt8) (c : UInt8) : 0 ≤ Lib.indexByte l c ↔ l.contains c = true := by
  induction l with
  | nil => simp [Lib.indexByte]
  | cons b l ih =>
    unfold Lib.indexByte
    have hge := Lib.indexByte_ge l c
    simp only [List.contains_cons, Bool.or_eq_true, beq_iff_eq, ← ih]
    by_cases h : b = c
    · simp [h]
    · have h' : ¬ c = b := fun e => h e.symm
      simp only [h, if_false, h', false_or]
      split <;> omega

theorem tok_reg (hIB : SaidIndexByte) (c : UInt8) (w : World) : Calls Try.prog 18 #[.int .u8 (c.toNat : Int)] w fun e w' => e = .returned (.bool (tok c)) ∧ w' = w := by
  have HX : Hid (0 ≤ Lib.indexByte tokList c ↔ tokList.contains c = true) := indexByte_nonneg tokList c
  have hIB' : ∀ w : World, Calls Try.prog 21 #[.string ⟨#[33, 35, 36, 37, 38, 39, 42, 43, 45, 46, 94, 95, 96, 124, 126]⟩, .int .u8 (c.toNat : Int)] w fun e w' => e = .returned (.int .i64 (Lib.indexByte tokList c)) ∧ w' = w := by
    intro w
    refine (hIB _ _ _).mono ?_
    rintro e w' ⟨rfl, rfl⟩
    refine ⟨?_, rfl⟩
    simp [tokList]
  have H2 : Hid _ := hIB'
  clear hIB'
  cases ha : alnum c.toNat
  all_goals
    go_enter Try.func18, Try.ntmps18
    go_wp2_with (first | (go_at_call 20; refine (alnum_reg _ _).mono ?_; rintro e w' ⟨rfl, rfl⟩) | (go_at_call 21; refine (H2.out _).mono ?_; rintro e w' ⟨rfl, rfl⟩))
    all_goals
      go_ret
      refine ⟨ret_bool ?_, rfl⟩
      simp only [tok, ha, Bool.false_or, Bool.true_or, ← HX.out]
      try simp

end Go.Proofs.Qxb6001399a
