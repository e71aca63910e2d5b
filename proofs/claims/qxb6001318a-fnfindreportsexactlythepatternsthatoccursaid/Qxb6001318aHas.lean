/-
  THE WALKS of has and ZZHas.
-/
import Derived.Test.Qxb6001318aNext
import Derived.Test.Qxb6001318aBits
import Derived.Deep.RegionWith
namespace Go.Proofs.Qxb6001318a
open Go.RowKit
set_option linter.unusedSimpArgs false
set_option linter.unusedVariables false

/-- A word of a row of marks. -/
def wcell (F : Nat → Bool) (q : Nat) : Value := .int .u64 (Pl.word F q : Int)

theorem pow_wrap (k : Nat) (h : k < 64) : IntKind.u64.wrap ((2 : Int) ^ k) = ((2 ^ k : Nat) : Int) := by
  have hlt : 2 ^ k < 18446744073709551616 := Nat.pow_lt_pow_right (n := 64) (by decide) h
  rw [IntKind.wrap_u64, show (2 : Int) ^ k = ((2 ^ k : Nat) : Int) from by simp]
  generalize 2 ^ k = m at *
  omega

theorem or_bit (F : Nat → Bool) (i : Nat) : bits .or .u64 ((Pl.word F (i / 64) : Nat) : Int) (IntKind.u64.wrap ((2 : Int) ^ (i % 64))) = ((Pl.word (Pl.setF F i) (i / 64) : Nat) : Int) := by
  have hk : i % 64 < 64 := Nat.mod_lt _ (by decide)
  have hlt : 2 ^ (i % 64) < 18446744073709551616 := Nat.pow_lt_pow_right (n := 64) (by decide) hk
  rw [pow_wrap _ hk, u64_or_nat _ _ (Pl.word_lt F _) hlt, Pl.word_set]

theorem and_bit (F : Nat → Bool) (i : Nat) : bits .and .u64 ((Pl.word F (i / 64) : Nat) : Int) (IntKind.u64.wrap ((2 : Int) ^ (i % 64))) = if F i then ((2 ^ (i % 64) : Nat) : Int) else 0 := by
  have hk : i % 64 < 64 := Nat.mod_lt _ (by decide)
  have hlt : 2 ^ (i % 64) < 18446744073709551616 := Nat.pow_lt_pow_right (n := 64) (by decide) hk
  rw [pow_wrap _ hk, u64_and_nat _ _ (Pl.word_lt F _) hlt, Pl.word_and]
  split <;> rfl

theorem and_ne (F : Nat → Bool) (i : Nat) : (bits .and .u64 ((Pl.word F (i / 64) : Nat) : Int) (IntKind.u64.wrap ((2 : Int) ^ (i % 64))) != 0) = F i := by
  rw [and_bit]
  have hp : 0 < 2 ^ (i % 64) := Nat.pow_pos (by decide)
  cases F i
  · rfl
  · generalize 2 ^ (i % 64) = m at *
    simp
    omega

theorem set_row {w : World} {g n i : Nat} {F : Nat → Bool} (hr : w.rowIs g 56 n (wcell F)) :
    (w.setCell ⟨g, i / 64, none⟩ (.int .u64 (bits .or .u64 ((Pl.word F (i / 64) : Nat) : Int) (IntKind.u64.wrap ((2 : Int) ^ (i % 64)))))).rowIs g 56 n (wcell (Pl.setF F i)) := by
  rw [or_bit]
  refine (hr.set (i / 64) _).congr fun q hq => ?_
  by_cases e : q = i / 64
  · subst e; rw [if_pos rfl]; rfl
  · rw [if_neg e]
    unfold wcell
    rw [Pl.word_set_other F i q e]

set_option maxRecDepth 100000 in
set_option maxHeartbeats 1000000 in
theorem has_any (x : Value) (hx : x.oneCell' = true) (gb W d : Nat) (G : Nat → Bool) (w : World) (hd : d / 64 < W) (hdb : d ≤ 1048577) (hb : w.rowIs gb 56 W (wcell G)) :
    Calls Try.prog 26 #[.agg #[x, .slice (some ⟨gb, 0, none⟩) W W], .int .i32 (d : Int)] w fun e w' => e = .returned (.bool (G d)) ∧ Below w.heap.size w w' := by
  have h1 : (0 : Int) ≤ (d : Int) / 64 := by omega
  have h2 : (d : Int) / 64 < (W : Int) := by omega
  have h3 : (0 : Int) ≤ (d : Int) % 64 := by omega
  have h4 : ¬ (d : Int) % 64 < 0 := by omega
  have h5 : (d : Int) % 64 < 64 := by omega
  obtain ⟨y, hy⟩ : ∃ y : Int, y = ((Pl.word G (d / 64) : Nat) : Int) := ⟨_, rfl⟩
  have HY : Hid _ := hy
  have hc : ∀ o, (w.alloc o).cell? ⟨gb, d / 64, none⟩ = some (.int .u64 y) := by rw [hy]; intro o; exact (hb.alloc o).cell hd
  clear hy
  go_enter Try.func26, Try.ntmps26
  go_upto_region 1 with fail
  go_quiet (fail)
  rename Nat => n1
  go_wp2
  go_ret
  rw [HY.out, and_ne]
  refine ⟨rfl, ?_⟩
  exact below_drewN ((Below.refl _ w).alloc (Nat.le_refl _) _) n1

set_option maxRecDepth 100000 in
set_option maxHeartbeats 1000000 in
theorem zzHas_any (gd N gb W i : Nat) (Dn : Nat → Nat) (G : Nat → Bool) (w : World) (hi : i < N) (hN : N ≤ 65536) (hd : Dn i / 64 < W) (hdb : Dn i ≤ 1048577) (hrd : w.rowIs gd 21 N (dcell Dn)) (hb : w.rowIs gb 56 W (wcell G)) :
    Calls Try.prog 17 #[.agg #[.slice (some ⟨gd, 0, none⟩) N N, .slice (some ⟨gb, 0, none⟩) W W], .int .i64 (i : Int)] w fun e w' => e = .returned (.bool (G (Dn i))) ∧ Below w.heap.size w w' := by
  have hc : ∀ o, (w.alloc o).cell? ⟨gd, i, none⟩ = some (.int .i32 (Dn i : Int)) := fun o => (hrd.alloc o).cell hi
  have HB : Hid (w.rowIs gb 56 W (wcell G)) := hb
  clear hb hrd
  generalize Dn i = d at hc hd hdb
  go_enter Try.func17, Try.ntmps17
  go_upto_region 1 with fail
  go_region_with (go_at_call 26; refine Calls.mono (has_any _ rfl gb W d G _ hd hdb (by first | exact (HB.out.alloc _) | exact (HB.out.alloc _).drew | exact row_drewN (HB.out.alloc _) _)) ?_; rintro e w' ⟨rfl, hb⟩)
  all_goals
    go_wp2_with fail
    go_ret
    refine ⟨rfl, Below.trans ?_ (hb.mono (by simp))⟩
    first
      | exact (Below.refl _ w).alloc (Nat.le_refl _) _
      | exact ((Below.refl _ w).alloc (Nat.le_refl _) _).drew
end Go.Proofs.Qxb6001318a
