/-
  THE WALKS of the law's small helpers: zzBytes_.., patternBytes, copyStrings, nonStar.
-/
import Derived.Test.Qxb6001183aSetBit
namespace Go.Proofs.Qxb6001183a
open Go.RowKit
set_option linter.unusedSimpArgs false
set_option linter.unusedVariables false

/-- A slice of strings that came in: where it has elements they lie in a row. -/
def SArg (w : World) (a : Option Addr) (len : Nat) (S : Nat → ByteArray) : Prop :=
  0 < len → ∃ b off, a = some ⟨b, off, none⟩ ∧ ∀ k, k < len → w.cell? ⟨b, off + k, none⟩ = some (.string (S k))

/-- The bytes of the first n. -/
def tot (S : Nat → ByteArray) : Nat → Nat
  | 0 => 0
  | n + 1 => tot S n + (S n).size

theorem tot_mono (S : Nat → ByteArray) {m n : Nat} (h : m ≤ n) : tot S m ≤ tot S n := by
  induction n with
  | zero => have : m = 0 := by omega
            subst this; exact Nat.le_refl _
  | succ n ih =>
    by_cases e : m = n + 1
    · subst e; exact Nat.le_refl _
    · have := ih (by omega)
      have e2 : tot S (n + 1) = tot S n + (S n).size := rfl
      omega

theorem size_le_tot (S : Nat → ByteArray) {k n : Nat} (h : k < n) : (S k).size ≤ tot S n := by
  have := tot_mono S (show k + 1 ≤ n from h)
  have e2 : tot S (k + 1) = tot S k + (S k).size := rfl
  omega

/-- It returned a bool. -/
def RetBool (e : Ending) : Prop := ∃ b, e = .returned (.bool b)

set_option maxHeartbeats 400000 in
theorem patternBytes_any (a : Option Addr) (len cap : Nat) (S : Nat → ByteArray) (w : World) (hl : len ≤ maxLen) (hS : SArg w a len S) (hsz : ∀ k, k < len → (S k).size ≤ maxLen) :
    Calls Try.prog 15 #[.slice a len cap] w fun e w' => (∃ t : Int, e = .returned (.int .i64 t) ∧ 0 ≤ t ∧ t ≤ 131072 ∧ (t ≤ 65536 → tot S len = t.toNat)) ∧ w' = w := by
  unfold maxLen at hl
  rcases Nat.eq_zero_or_pos len with h0 | hpos
  · subst h0
    go_enter Try.func15, Try.ntmps15
    go_wp2
    refine wp_loop_rounds 1 ?_; rw [rounds_succ]; go_wp2
    go_ret
    exact ⟨⟨0, rfl, by omega, by omega, fun _ => rfl⟩, rfl⟩
  · obtain ⟨b, off, rfl, hc⟩ := hS hpos
    have HC : Hid _ := hc
    clear hc hS
    go_enter Try.func15, Try.ntmps15
    go_wp2
    go_loop [3, 4] (fun t i => ∃ k : Nat, ∃ m : Nat, k ≤ len ∧ i = .int .i64 k ∧ t = .int .i64 m ∧ Hid (m = tot S k) ∧ m ≤ 65536) (fun _ i => len - (intOf i).toNat)
    case atStart => exact ⟨0, 0, Nat.zero_le _, rfl, rfl, rfl, Nat.zero_le _⟩
    case round =>
      obtain ⟨k, m, hk, rfl, rfl, HM, hm⟩ := hrel
      by_cases hlt : k < len
      · have hc := HC.out k hlt
        have hs := hsz k hlt
        unfold maxLen at hs
        by_cases h1 : (S k).size ≤ 65536
        · by_cases h2 : m + (S k).size ≤ 65536
          · go_wp2
            go_round
            case rel => exact ⟨k + 1, m + (S k).size, by omega, by go_num, by go_num, (by show _ = _; rw [HM.out]; rfl), h2⟩
            case measure => simp [intOf]; omega
          · go_wp2
            go_ret
            exact ⟨⟨_, rfl, by omega, by omega, fun h => by omega⟩, rfl⟩
        · go_wp2
          go_ret
          exact ⟨⟨_, rfl, by omega, by omega, fun h => by omega⟩, rfl⟩
      · go_wp2
        go_ret
        refine ⟨⟨_, rfl, by omega, by omega, fun h => ?_⟩, rfl⟩
        have : k = len := by omega
        subst this
        rw [← HM.out]; omega

set_option maxHeartbeats 400000 in
theorem zzBytesG (a : Option Addr) (len cap : Nat) (S : Nat → ByteArray) (p : ByteArray) (w : World) (hl : len ≤ maxLen) (hS : SArg w a len S) (hsz : ∀ k, k < len → (S k).size ≤ maxLen) (hp : p.size ≤ maxLen) :
    Calls Try.prog 14 #[.slice a len cap, .string p] w fun e w' => RetBool e ∧ w' = w := by
  unfold maxLen at hl hp
  by_cases hL : len ≤ 1048576
  case neg =>
    go_enter Try.func14, Try.ntmps14
    go_wp2
    go_ret
    exact ⟨⟨_, rfl⟩, rfl⟩
  rcases Nat.eq_zero_or_pos len with h0 | hpos
  · subst h0
    go_enter Try.func14, Try.ntmps14
    go_wp2
    refine wp_loop_rounds 1 ?_; rw [rounds_succ]; go_wp2
    all_goals
      go_ret
      exact ⟨⟨_, rfl⟩, rfl⟩
  · obtain ⟨b, off, rfl, hc⟩ := hS hpos
    have HC : Hid _ := hc
    clear hc hS
    go_enter Try.func14, Try.ntmps14
    go_wp2
    go_loop [5, 6] (fun t i => ∃ k : Nat, ∃ m : Nat, k ≤ len ∧ i = .int .i64 k ∧ t = .int .i64 m ∧ m ≤ 1048576) (fun _ i => len - (intOf i).toNat)
    case atStart => exact ⟨0, len, Nat.zero_le _, rfl, rfl, by omega⟩
    case round =>
      obtain ⟨k, m, hk, rfl, rfl, hm⟩ := hrel
      by_cases hlt : k < len
      · have hc := HC.out k hlt
        have hs := hsz k hlt
        unfold maxLen at hs
        by_cases h1 : (S k).size ≤ 1048576
        · by_cases h2 : m + (S k).size ≤ 1048576
          · go_wp2
            go_round
            case rel => exact ⟨k + 1, m + (S k).size, by omega, by go_num, by go_num, h2⟩
            case measure => simp [intOf]; omega
          · go_wp2
            go_ret
            exact ⟨⟨_, rfl⟩, rfl⟩
        · go_wp2
          go_ret
          exact ⟨⟨_, rfl⟩, rfl⟩
      · go_wp2
        all_goals
          go_ret
          exact ⟨⟨_, rfl⟩, rfl⟩

set_option maxHeartbeats 400000 in
theorem zzBytesL (a : Option Addr) (len cap : Nat) (S : Nat → ByteArray) (w : World) (hl : len ≤ maxLen) (hS : SArg w a len S) (hsz : ∀ k, k < len → (S k).size ≤ maxLen) :
    Calls Try.prog 19 #[.slice a len cap] w fun e w' => RetBool e ∧ w' = w := by
  unfold maxLen at hl
  by_cases hL : len ≤ 1048576
  case neg =>
    go_enter Try.func19, Try.ntmps19
    go_wp2
    go_ret
    exact ⟨⟨_, rfl⟩, rfl⟩
  rcases Nat.eq_zero_or_pos len with h0 | hpos
  · subst h0
    go_enter Try.func19, Try.ntmps19
    go_wp2
    refine wp_loop_rounds 1 ?_; rw [rounds_succ]; go_wp2
    all_goals
      go_ret
      exact ⟨⟨_, rfl⟩, rfl⟩
  · obtain ⟨b, off, rfl, hc⟩ := hS hpos
    have HC : Hid _ := hc
    clear hc hS
    go_enter Try.func19, Try.ntmps19
    go_wp2
    go_loop [3, 4] (fun t i => ∃ k : Nat, ∃ m : Nat, k ≤ len ∧ i = .int .i64 k ∧ t = .int .i64 m ∧ m ≤ 1048576) (fun _ i => len - (intOf i).toNat)
    case atStart => exact ⟨0, len, Nat.zero_le _, rfl, rfl, by omega⟩
    case round =>
      obtain ⟨k, m, hk, rfl, rfl, hm⟩ := hrel
      by_cases hlt : k < len
      · have hc := HC.out k hlt
        have hs := hsz k hlt
        unfold maxLen at hs
        by_cases h1 : (S k).size ≤ 1048576
        · by_cases h2 : m + (S k).size ≤ 1048576
          · go_wp2
            go_round
            case rel => exact ⟨k + 1, m + (S k).size, by omega, by go_num, by go_num, h2⟩
            case measure => simp [intOf]; omega
          · go_wp2
            go_ret
            exact ⟨⟨_, rfl⟩, rfl⟩
        · go_wp2
          go_ret
          exact ⟨⟨_, rfl⟩, rfl⟩
      · go_wp2
        all_goals
          go_ret
          exact ⟨⟨_, rfl⟩, rfl⟩
end Go.Proofs.Qxb6001183a
