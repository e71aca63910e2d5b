/-
  THE WALKS of the law's small helpers: zzBytes_.., patternBytes, clone.
-/
import Derived.Test.Qxb6001318aRows
import Derived.WalkKit
import Derived.WalkSpells
import Derived.WalkLawsBesides
import Derived.BigRegion
import Derived.BigQuiet
import Derived.Deep.QuietTactic
import Derived.Deep.OwnRows
import Derived.Laws.BitsAllLaws
namespace Go.Proofs.Qxb6001318a
open Go.RowKit
set_option linter.unusedSimpArgs false
set_option linter.unusedVariables false

/-- A slice of strings that came in: where it has elements they lie in a row. -/
def SArg (w : World) (a : Option Addr) (len : Nat) (S : Nat → ByteArray) : Prop :=
  0 < len → ∃ b off, a = some ⟨b, off, none⟩ ∧ ∀ k, k < len → w.cell? ⟨b, off + k, none⟩ = some (.string (S k))

/-- The bytes of the first n. -/
def tot (S : Nat → ByteArray) : Nat → Nat
  | 0 => 0
  | n + 1 => tot S n + (S n).size

theorem tot_mono (S : Nat → ByteArray) {m n : Nat} (h : m ≤ n) : tot S m ≤ tot S n := by
  induction n with
  | zero => have : m = 0 := by omega
            subst this; exact Nat.le_refl _
  | succ n ih =>
    by_cases e : m = n + 1
    · subst e; exact Nat.le_refl _
    · have := ih (by omega)
      have e2 : tot S (n + 1) = tot S n + (S n).size := rfl
      omega

theorem size_le_tot (S : Nat → ByteArray) {k n : Nat} (h : k < n) : (S k).size ≤ tot S n := by
  have := tot_mono S (show k + 1 ≤ n from h)
  have e2 : tot S (k + 1) = tot S k + (S k).size := rfl
  omega

/-- It returned a bool. -/
def RetBool (e : Ending) : Prop := ∃ b, e = .returned (.bool b)

/-- What patternBytes returns. -/
def PBPost (len : Nat) (S : Nat → ByteArray) (e : Ending) : Prop := ∃ t : Int, e = .returned (.int .i64 t) ∧ -1 ≤ t ∧ t ≤ 1048576 ∧ (0 ≤ t → len ≤ 65536 ∧ t = 16 * (len : Int) + (tot S len : Int))

set_option maxHeartbeats 400000 in
theorem patternBytes_any (a : Option Addr) (len cap : Nat) (S : Nat → ByteArray) (w : World) (hl : len ≤ maxLen) (hS : SArg w a len S) (hsz : ∀ k, k < len → (S k).size ≤ maxLen) :
    Calls Try.prog 8 #[.slice a len cap] w fun e w' => PBPost len S e ∧ w' = w := by
  unfold maxLen at hl
  by_cases hL : len ≤ 65536
  case neg =>
    go_enter Try.func8, Try.ntmps8
    go_wp2
    go_ret
    exact ⟨⟨_, rfl, by omega, by omega, fun h => by omega⟩, rfl⟩
  rcases Nat.eq_zero_or_pos len with h0 | hpos
  · subst h0
    go_enter Try.func8, Try.ntmps8
    go_wp2
    refine wp_loop_rounds 1 ?_; rw [rounds_succ]; go_wp2
    go_ret
    exact ⟨⟨0, rfl, by omega, by omega, fun _ => ⟨by omega, rfl⟩⟩, rfl⟩
  · obtain ⟨b, off, rfl, hc⟩ := hS hpos
    have HC : Hid _ := hc
    clear hc hS
    go_enter Try.func8, Try.ntmps8
    go_wp2
    go_loop [3, 4] (fun t i => ∃ k : Nat, ∃ m : Nat, k ≤ len ∧ i = .int .i64 k ∧ t = .int .i64 m ∧ Hid (m = 16 * len + tot S k) ∧ m ≤ 1048576) (fun _ i => len - (intOf i).toNat)
    case atStart => exact ⟨0, 16 * len, Nat.zero_le _, rfl, by go_num, rfl, by omega⟩
    case round =>
      obtain ⟨k, m, hk, rfl, rfl, HM, hm⟩ := hrel
      by_cases hlt : k < len
      · have hc := HC.out k hlt
        have hs := hsz k hlt
        unfold maxLen at hs
        by_cases h1 : (S k).size ≤ 1048576
        · by_cases h2 : m + (S k).size ≤ 1048576
          · go_wp2
            go_round
            case rel => exact ⟨k + 1, m + (S k).size, by omega, by go_num, by go_num, (by show _ = _; rw [HM.out, tot]; omega), h2⟩
            case measure => simp [intOf]; omega
          · go_wp2
            go_ret
            exact ⟨⟨_, rfl, by omega, by omega, fun h => by omega⟩, rfl⟩
        · go_wp2
          go_ret
          exact ⟨⟨_, rfl, by omega, by omega, fun h => by omega⟩, rfl⟩
      · go_wp2
        go_ret
        refine ⟨⟨_, rfl, by omega, by omega, fun h => ⟨by omega, ?_⟩⟩, rfl⟩
        have : k = len := by omega
        subst this
        rw [HM.out]; omega

set_option maxHeartbeats 400000 in
theorem zzBytes5 (a : Option Addr) (len cap : Nat) (S : Nat → ByteArray) (p : ByteArray) (w : World) (hl : len ≤ maxLen) (hS : SArg w a len S) (hsz : ∀ k, k < len → (S k).size ≤ maxLen) (hp : p.size ≤ maxLen) :
    Calls Try.prog 14 #[.slice a len cap, .string p] w fun e w' => RetBool e ∧ w' = w := by
  unfold maxLen at hl hp
  by_cases hL : len ≤ 1048576
  case neg =>
    go_enter Try.func14, Try.ntmps14
    go_wp2
    go_ret
    exact ⟨⟨_, rfl⟩, rfl⟩
  rcases Nat.eq_zero_or_pos len with h0 | hpos
  · subst h0
    go_enter Try.func14, Try.ntmps14
    go_wp2
    refine wp_loop_rounds 1 ?_; rw [rounds_succ]; go_wp2
    all_goals
      go_ret
      exact ⟨⟨_, rfl⟩, rfl⟩
  · obtain ⟨b, off, rfl, hc⟩ := hS hpos
    have HC : Hid _ := hc
    clear hc hS
    go_enter Try.func14, Try.ntmps14
    go_wp2
    go_loop [5, 6] (fun t i => ∃ k : Nat, ∃ m : Nat, k ≤ len ∧ i = .int .i64 k ∧ t = .int .i64 m ∧ m ≤ 1048576) (fun _ i => len - (intOf i).toNat)
    case atStart => exact ⟨0, len, Nat.zero_le _, rfl, rfl, by omega⟩
    case round =>
      obtain ⟨k, m, hk, rfl, rfl, hm⟩ := hrel
      by_cases hlt : k < len
      · have hc := HC.out k hlt
        have hs := hsz k hlt
        unfold maxLen at hs
        by_cases h1 : (S k).size ≤ 1048576
        · by_cases h2 : m + (S k).size ≤ 1048576
          · go_wp2
            go_round
            case rel => exact ⟨k + 1, m + (S k).size, by omega, by go_num, by go_num, h2⟩
            case measure => simp [intOf]; omega
          · go_wp2
            go_ret
            exact ⟨⟨_, rfl⟩, rfl⟩
        · go_wp2
          go_ret
          exact ⟨⟨_, rfl⟩, rfl⟩
      · go_wp2
        all_goals
          go_ret
          exact ⟨⟨_, rfl⟩, rfl⟩

set_option maxHeartbeats 400000 in
theorem zzBytes6 (a : Option Addr) (len cap : Nat) (S : Nat → ByteArray) (p p2 p3 : ByteArray) (w : World) (hl : len ≤ maxLen) (hS : SArg w a len S) (hsz : ∀ k, k < len → (S k).size ≤ maxLen) (hp : p.size ≤ maxLen) (hp2 : p2.size ≤ maxLen) (hp3 : p3.size ≤ maxLen) :
    Calls Try.prog 19 #[.slice a len cap, .string p, .string p2, .string p3] w fun e w' => RetBool e ∧ w' = w := by
  unfold maxLen at hl hp hp2 hp3
  by_cases hL : len ≤ 1048576
  case neg =>
    go_enter Try.func19, Try.ntmps19
    go_wp2
    go_ret
    exact ⟨⟨_, rfl⟩, rfl⟩
  rcases Nat.eq_zero_or_pos len with h0 | hpos
  · subst h0
    go_enter Try.func19, Try.ntmps19
    go_wp2
    refine wp_loop_rounds 1 ?_; rw [rounds_succ]; go_wp2
    all_goals
      go_ret
      exact ⟨⟨_, rfl⟩, rfl⟩
  · obtain ⟨b, off, rfl, hc⟩ := hS hpos
    have HC : Hid _ := hc
    clear hc hS
    go_enter Try.func19, Try.ntmps19
    go_wp2
    go_loop [9, 10] (fun t i => ∃ k : Nat, ∃ m : Nat, k ≤ len ∧ i = .int .i64 k ∧ t = .int .i64 m ∧ m ≤ 1048576) (fun _ i => len - (intOf i).toNat)
    case atStart => exact ⟨0, len, Nat.zero_le _, rfl, rfl, by omega⟩
    case round =>
      obtain ⟨k, m, hk, rfl, rfl, hm⟩ := hrel
      by_cases hlt : k < len
      · have hc := HC.out k hlt
        have hs := hsz k hlt
        unfold maxLen at hs
        by_cases h1 : (S k).size ≤ 1048576
        · by_cases h2 : m + (S k).size ≤ 1048576
          · go_wp2
            go_round
            case rel => exact ⟨k + 1, m + (S k).size, by omega, by go_num, by go_num, h2⟩
            case measure => simp [intOf]; omega
          · go_wp2
            go_ret
            exact ⟨⟨_, rfl⟩, rfl⟩
        · go_wp2
          go_ret
          exact ⟨⟨_, rfl⟩, rfl⟩
      · go_wp2
        all_goals
          go_ret
          exact ⟨⟨_, rfl⟩, rfl⟩

theorem info9 : (Try.prog.info? 9).map (fun i => (i.zero, i.size, i.bytes)) = some (some (.string ⟨#[]⟩), 1, 16) := by kernel_rfl

/-- A cell of a row of strings. -/
def scell (S : Nat → ByteArray) (k : Nat) : Value := .string (S k)

/-- A slice of strings of the call's own. -/
def OwnStrs (B : Nat) (w : World) (a : Option Addr) (len : Nat) (S : Nat → ByteArray) : Prop :=
  0 < len → ∃ g, a = some ⟨g, 0, none⟩ ∧ B ≤ g ∧ w.rowIs g 9 len (scell S)

/-- What clone leaves. -/
def CopyPost (w : World) (len : Nat) (S : Nat → ByteArray) (e : Ending) (w' : World) : Prop :=
  ∃ a' cap', e = .returned (.slice a' len cap') ∧ OwnStrs w.heap.size w' a' len S ∧ Below w.heap.size w w'

set_option maxHeartbeats 400000 in
theorem clone_any (a : Option Addr) (len cap : Nat) (S : Nat → ByteArray) (w : World) (hl : len ≤ 65536) (hnil : a = none → len = 0 ∧ cap = 0) (hS : SArg w a len S) :
    Calls Try.prog 9 #[.slice a len cap] w (CopyPost w len S) := by
  have heq : ∀ (w : World) (a : Option Addr) (n c : Nat), (binOp .eql 22 (.slice a n c) (.slice none 0 0)).run Try.prog w = .ok (.bool a.isNone) w := fun w a n c => Lib.run_eql_slice_nil w 22 9 a n c 0 0 Try.underlying22
  cases a with
  | none =>
    obtain ⟨rfl, rfl⟩ := hnil rfl
    go_enter Try.func9, Try.ntmps9
    go_wp2
    go_ret
    exact ⟨none, 0, rfl, fun h => absurd h (Nat.lt_irrefl _), Below.refl _ _⟩
  | some ad =>
    have hmk := run_make_row' (P := Try.prog) 22 9 (.string ⟨#[]⟩) 16 Try.underlying22 info9 rfl .i64 .i64 len (by omega) (by omega)
    rcases Nat.eq_zero_or_pos len with h0 | hpos
    · subst h0
      have hmk0 : ∀ w, (Instr.makeSlice 22 (.int .i64 0) (.int .i64 0)).run Try.prog w = .ok (.slice (some ⟨w.heap.size, 0, none⟩) 0 0) (w.alloc (.cells (madeCells #[.string ⟨#[]⟩] 0) 9)) := hmk
      go_enter Try.func9, Try.ntmps9
      go_wp2
      refine wp_loop_rounds 1 ?_; rw [rounds_succ]; go_wp2
      go_ret
      exact ⟨_, 0, rfl, fun h => absurd h (Nat.lt_irrefl _), (Below.refl _ _).alloc (Nat.le_refl _) _⟩
    · obtain ⟨b, off, e, hc⟩ := hS hpos
      cases e
      have HC : Hid _ := hc
      have hb : b < w.heap.size := World.block_lt_of_cell? w _ (hc 0 hpos)
      clear hc hS hnil
      go_enter Try.func9, Try.ntmps9
      go_wp2
      go_loopw [4] (fun i wr => ∃ k : Nat, k ≤ len ∧ i = .int .i64 k ∧ wr.rowIs w.heap.size 9 len (fun j => if j < k then scell S j else .string ⟨#[]⟩) ∧ Below w.heap.size w wr) (fun i _ => len - (intOf i).toNat)
      case atStart => exact ⟨0, Nat.zero_le _, rfl, World.rowIs_made _ _ _ _, (Below.refl _ _).alloc (Nat.le_refl _) _⟩
      case round =>
        obtain ⟨k, hk, rfl, hr, hbel⟩ := hrel
        clear hmk heq
        by_cases hlt : k < len
        · have hc0 : wr.cell? ⟨b, off + k, none⟩ = some (.string (S k)) := (hbel.cell (p := ⟨b, off + k, none⟩) hb).trans (HC.out k hlt)
          have hc1 := hr.cell hlt
          have hf := hr.frozen k
          rw [if_neg (Nat.lt_irrefl k)] at hc1
          go_wp2
          go_roundw
          case rel =>
            refine ⟨k + 1, by omega, by go_num, ?_, hbel.setCell (p := ⟨w.heap.size, k, none⟩) (Nat.le_refl _) _⟩
            refine (hr.set k _).congr fun j hj => ?_
            by_cases e : j = k
            · subst e; rw [if_pos rfl, if_pos (by omega)]; rfl
            · rw [if_neg e]
              by_cases e2 : j < k
              · rw [if_pos e2, if_pos (by omega)]
              · rw [if_neg e2, if_neg (by omega)]
          case measure => simp [intOf]; omega
        · have : k = len := by omega
          subst this
          go_wp2
          go_ret
          exact ⟨_, k, rfl, fun _ => ⟨_, rfl, Nat.le_refl _, hr.congr fun j hj => if_pos hj⟩, hbel⟩

end Go.Proofs.Qxb6001318a
