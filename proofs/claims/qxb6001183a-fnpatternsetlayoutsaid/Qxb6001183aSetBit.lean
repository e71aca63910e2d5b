/-
  ROWS OF BITS IN MEMORY; THE WALKS of setBit, setW.
-/
import Derived.Test.Qxb6001183aRows
import Derived.Test.Qxb6001183aBitsPlain
import Derived.WalkKit
import Derived.WalkSpells
import Derived.WalkLawsBesides
import Derived.BigRegion
import Derived.BigQuiet
import Derived.Deep.QuietTactic
import Derived.Deep.OwnRows
import Derived.Laws.BitsAllLaws
namespace Go.Proofs.Qxb6001183a
open Go.RowKit
set_option linter.unusedSimpArgs false
set_option linter.unusedVariables false

/-- What word q of a row of bits holds. -/
def bcell (F : Nat → Bool) (q : Nat) : Value := .int .u64 (Pl.word F q : Int)

/-- Nothing has turned but block g; no block is new. -/
structure Only (g : Nat) (w w' : World) : Prop where
  os : w'.os = w.os
  tape : w'.tape = w.tape
  output : w'.output = w.output
  size : w'.heap.size = w.heap.size
  block : ∀ k, k ≠ g → w'.heap[k]? = w.heap[k]?

theorem Only.below {g B : Nat} {w w' : World} (h : Only g w w') (hB : B ≤ g) : Below B w w' :=
  ⟨h.os, h.tape, h.output, Nat.le_of_eq h.size.symm, fun k hk => h.block k (by omega)⟩

theorem Only.row {g b : Nat} {w w' : World} {t : TypeId} {n : Nat} {f : Nat → Value} (h : Only g w w') (hb : b ≠ g) (hr : w.rowIs b t n f) : w'.rowIs b t n f := hr.of_block (h.block b hb)

theorem Only.own {g B : Nat} {w w' : World} {t : TypeId} {n : Nat} {v : Value} {xs : List Value} (h : Only g w w') (hv : v.ownBlock ≠ some g) (hr : w.ownsRow B t 1 v n xs) : w'.ownsRow B t 1 v n xs :=
  hr.kept (row := some g) ⟨h.os, h.tape, h.output, Nat.le_of_eq h.size.symm, fun k _ hk => h.block k (fun e => hk (by rw [e]))⟩ (Or.inr hv)

/-- Rows of two types are two blocks. -/
theorem row_ne {w : World} {b b' : Nat} {t t' : TypeId} {n n' : Nat} {f f' : Nat → Value} (h : w.rowIs b t n f) (h' : w.rowIs b' t' n' f') (ht : t ≠ t') : b ≠ b' := by
  rintro rfl
  obtain ⟨c, hc, _⟩ := h
  obtain ⟨c', hc', _⟩ := h'
  rw [hc] at hc'
  simp at hc'
  exact ht hc'.2

theorem pow_wrap (k : Nat) (h : k < 64) : IntKind.u64.wrap ((2 : Int) ^ k) = ((2 ^ k : Nat) : Int) := by
  have hlt : 2 ^ k < 18446744073709551616 := Nat.pow_lt_pow_right (n := 64) (by decide) h
  rw [IntKind.wrap_u64, show (2 : Int) ^ k = ((2 ^ k : Nat) : Int) from by simp]
  generalize 2 ^ k = m at *
  omega

theorem or_bit (F : Nat → Bool) (i : Nat) : bits .or .u64 ((Pl.word F (i / 64) : Nat) : Int) (IntKind.u64.wrap ((2 : Int) ^ (i % 64))) = ((Pl.word (Pl.setF F i) (i / 64) : Nat) : Int) := by
  have hk : i % 64 < 64 := Nat.mod_lt _ (by decide)
  have hlt : 2 ^ (i % 64) < 18446744073709551616 := Nat.pow_lt_pow_right (n := 64) (by decide) hk
  rw [pow_wrap _ hk, u64_or_nat _ _ (Pl.word_lt F _) hlt, Pl.word_set]

theorem set_row {w : World} {g n i : Nat} {F : Nat → Bool} (hr : w.rowIs g 40 n (bcell F)) :
    (w.setCell ⟨g, i / 64, none⟩ (.int .u64 (bits .or .u64 ((Pl.word F (i / 64) : Nat) : Int) (IntKind.u64.wrap ((2 : Int) ^ (i % 64)))))).rowIs g 40 n (bcell (Pl.setF F i)) := by
  rw [or_bit]
  refine (hr.set (i / 64) _).congr fun q hq => ?_
  by_cases e : q = i / 64
  · subst e; rw [if_pos rfl]; rfl
  · rw [if_neg e]
    unfold bcell
    rw [Pl.word_set_other F i q e]

theorem only_set (w : World) (g o : Nat) (v : Value) : Only g w (w.setCell ⟨g, o, none⟩ v) :=
  ⟨rfl, rfl, rfl, by simp, fun k hk => Below.heap_setCell _ _ _ _ (by simpa using hk)⟩

theorem Only.drew {g : Nat} {w w' : World} (h : Only g w w') : Only g w w'.drew := ⟨h.os, h.tape, h.output, h.size, h.block⟩

set_option maxHeartbeats 400000 in
theorem setBit_any (g n cap i : Nat) (F : Nat → Bool) (w : World) (hi : i / 64 < n) (hib : i ≤ 4194304) (hr : w.rowIs g 40 n (bcell F)) :
    Calls Try.prog 25 #[.slice (some ⟨g, 0, none⟩) n cap, .int .i64 (i : Int)] w fun e w' => e = .returned (.tuple #[]) ∧ w'.rowIs g 40 n (bcell (Pl.setF F i)) ∧ Only g w w' := by
  have h1 : (0 : Int) ≤ (i : Int) / 64 := by omega
  have h2 : (i : Int) / 64 < (n : Int) := by omega
  have h3 : (0 : Int) ≤ (i : Int) % 64 := by omega
  have h4 : ¬ (i : Int) % 64 < 0 := by omega
  have h5 : (i : Int) % 64 < 64 := by omega
  have hf := hr.frozen (i / 64)
  obtain ⟨x, hx⟩ : ∃ x : Int, x = ((Pl.word F (i / 64) : Nat) : Int) := ⟨_, rfl⟩
  have HX : Hid _ := hx
  have hc : w.cell? ⟨g, i / 64, none⟩ = some (.int .u64 x) := by rw [hx]; exact hr.cell hi
  clear hx
  go_enter Try.func25, Try.ntmps25
  go_wp2
  go_region
  go_end0
  rw [HX.out]
  exact ⟨rfl, (set_row hr).drew, (only_set w g _ _).drew⟩

set_option maxHeartbeats 400000 in
theorem setW_any (g n cap i : Nat) (F : Nat → Bool) (w : World) (hi : i / 64 < n) (hib : i ≤ 4194304) (hr : w.rowIs g 40 n (bcell F)) :
    Calls Try.prog 21 #[.slice (some ⟨g, 0, none⟩) n cap, .int .i64 (i : Int)] w fun e w' => e = .returned (.tuple #[]) ∧ w'.rowIs g 40 n (bcell (Pl.setF F i)) ∧ Only g w w' := by
  have hf := hr.frozen (i / 64)
  obtain ⟨x, hx⟩ : ∃ x : Int, x = ((Pl.word F (i / 64) : Nat) : Int) := ⟨_, rfl⟩
  have HX : Hid _ := hx
  have hc : w.cell? ⟨g, i / 64, none⟩ = some (.int .u64 x) := by rw [hx]; exact hr.cell hi
  clear hx
  go_enter Try.func21, Try.ntmps21
  go_wp2
  go_end0
  rw [HX.out]
  exact ⟨rfl, set_row hr, only_set w g _ _⟩

theorem setBit_int (g n cap i : Nat) (ii : Int) (F : Nat → Bool) (w : World) (hii : ii = (i : Int)) (hi : i / 64 < n) (hib : i ≤ 4194304) (hr : w.rowIs g 40 n (bcell F)) :
    Calls Try.prog 25 #[.slice (some ⟨g, 0, none⟩) n cap, .int .i64 ii] w fun e w' => e = .returned (.tuple #[]) ∧ w'.rowIs g 40 n (bcell (Pl.setF F i)) ∧ Only g w w' := by
  subst hii
  exact setBit_any g n cap i F w hi hib hr
end Go.Proofs.Qxb6001183a
