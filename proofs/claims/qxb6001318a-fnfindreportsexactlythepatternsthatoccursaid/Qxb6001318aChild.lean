/-
  THE WALK of child: binary search over the labels of a state's children.
-/
import Derived.Test.Qxb6001318aDist
namespace Go.Proofs.Qxb6001318a
open Go.RowKit
set_option linter.unusedSimpArgs false
set_option linter.unusedVariables false

/-- A cell of a row of bytes. -/
def bcell (L : Nat → UInt8) (j : Nat) : Value := .int .u8 ((L j).toNat : Int)

/-- What child returns: the state between lo and hi that bears the label, or -1. -/
def ChildPost (L : Nat → UInt8) (lo hi : Nat) (c : UInt8) (e : Ending) : Prop :=
  (∃ j, lo ≤ j ∧ j < hi ∧ L j = c ∧ e = .returned (.int .i32 (j : Int))) ∨ ((∀ j, lo ≤ j → j < hi → L j ≠ c) ∧ e = .returned (.int .i32 (-1)))

set_option maxRecDepth 100000 in
set_option maxHeartbeats 1000000 in
theorem child_any (gf gl m n s : Nat) (A : Nat → Nat) (L : Nat → UInt8) (c : UInt8) (w : World) (hs : s + 1 < m) (hn : n ≤ 1048577) (hsb : s ≤ 1048577) (hf : w.rowIs gf 21 m (dcell A)) (hl : w.rowIs gl 5 n (bcell L)) (h1 : A s ≤ A (s + 1)) (h2 : A (s + 1) ≤ n)
    (hasc : ∀ i j, A s ≤ i → i < j → j < A (s + 1) → (L i).toNat < (L j).toNat) :
    Calls Try.prog 12 #[.slice (some ⟨gf, 0, none⟩) m m, .slice (some ⟨gl, 0, none⟩) n n, .int .i32 (s : Int), .int .u8 (c.toNat : Int)] w fun e w' => ChildPost L (A s) (A (s + 1)) c e ∧ w' = w := by
  have hc0 : w.cell? ⟨gf, s, none⟩ = some (.int .i32 (A s : Int)) := hf.cell (by omega)
  have hc1 : w.cell? ⟨gf, s + 1, none⟩ = some (.int .i32 (A (s + 1) : Int)) := hf.cell hs
  have HA : Hid _ := hasc
  clear hasc hf
  generalize A s = lo at hc0 h1 HA
  generalize A (s + 1) = hi at hc1 h1 h2 HA
  have hcl : ∀ j, j < n → w.cell? ⟨gl, j, none⟩ = some (.int .u8 ((L j).toNat : Int)) := fun j hj => hl.cell hj
  have HC : Hid _ := hcl
  clear hcl hl
  go_enter Try.func12, Try.ntmps12
  go_wp2_with fail
  go_loopg [9, 10] (hi - lo) (fun gk av bv wk => ∃ (a b : Nat), lo ≤ a ∧ a ≤ b ∧ b ≤ hi ∧ Hid (gk = b - a) ∧ av = .int .i32 (a : Int) ∧ bv = .int .i32 (b : Int) ∧ Hid (∀ j, lo ≤ j → j < a → (L j).toNat < c.toNat) ∧ Hid (∀ j, b ≤ j → j < hi → c.toNat ≤ (L j).toNat) ∧ wk = w)
  case atStart => exact ⟨lo, hi, Nat.le_refl _, h1, Nat.le_refl _, rfl, rfl, rfl, fun j h3 h4 => by omega, fun j h3 h4 => by omega, rfl⟩
  case round =>
    obtain ⟨a, b, ha, hab, hb, Hgk, rfl, rfl, HB1, HB2, rfl⟩ := hrel
    by_cases hlt : a < b
    · obtain ⟨mid, Hmid⟩ : ∃ m, Hid (m = a + (b - a) / 2) := ⟨_, rfl⟩
      have hm1 : a ≤ mid := by rw [Hmid.out]; omega
      have hm2 : mid < b := by rw [Hmid.out]; omega
      have hme : (a : Int) + ((b : Int) - (a : Int)) / 2 = (mid : Int) := by rw [Hmid.out]; omega
      have hcm := HC.out mid (by omega)
      by_cases hL : (L mid).toNat < c.toNat
      · have hL' : ((L mid).toNat : Int) < (c.toNat : Int) := by omega
        have HN : Hid (∀ j, lo ≤ j → j < mid + 1 → (L j).toNat < c.toNat) := by
          intro j h3 h4
          by_cases e : j = mid
          · subst e; exact hL
          · have := HA.out j mid h3 (by omega) (by omega)
            omega
        go_wp2
        go_roundg (b - (mid + 1))
        case measure => rw [Hgk.out]; omega
        case rel => exact ⟨mid + 1, b, by omega, by omega, hb, rfl, by go_num, rfl, HN, HB2, rfl⟩
      · have hL' : decide (((L mid).toNat : Int) < (c.toNat : Int)) = false := by rw [decide_eq_false_iff_not]; omega
        have HN : Hid (∀ j, mid ≤ j → j < hi → c.toNat ≤ (L j).toNat) := by
          intro j h3 h4
          by_cases e : j = mid
          · subst e; omega
          · have := HA.out mid j (by omega) (by omega) h4
            omega
        go_wp2
        go_roundg (mid - a)
        case measure => rw [Hgk.out]; omega
        case rel => exact ⟨a, mid, ha, hm1, by omega, rfl, rfl, by go_num, HB1, HN, rfl⟩
    · have eab : a = b := by omega
      subst eab
      by_cases hah : a < hi
      · have hca := HC.out a (by omega)
        by_cases hLc : L a = c
        · have h3 : (((L a).toNat : Int) == (c.toNat : Int)) = true := by rw [ch_eq, hLc]; simp
          go_wp2
          go_ret
          exact ⟨.inl ⟨a, ha, hah, hLc, rfl⟩, rfl⟩
        · have h3 : (((L a).toNat : Int) == (c.toNat : Int)) = false := by rw [ch_eq]; simp [hLc]
          go_wp2
          go_ret
          refine ⟨.inr ⟨fun j h4 h5 e => ?_, rfl⟩, rfl⟩
          have e' : (L j).toNat = c.toNat := by rw [e]
          by_cases hja : j < a
          · have := HB1.out j h4 hja; omega
          · by_cases hje : j = a
            · subst hje; exact hLc e
            · have := HA.out a j ha (by omega) h5
              have := HB2.out a (Nat.le_refl _) hah
              omega
      · go_wp2
        go_ret
        refine ⟨.inr ⟨fun j h4 h5 e => ?_, rfl⟩, rfl⟩
        have e' : (L j).toNat = c.toNat := by rw [e]
        have := HB1.out j h4 (by omega)
        omega
end Go.Proofs.Qxb6001318a
