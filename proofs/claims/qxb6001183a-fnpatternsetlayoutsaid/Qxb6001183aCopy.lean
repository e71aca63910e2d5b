/-
  THE WALKS of copyStrings, nonStar.
-/
import Derived.Test.Qxb6001183aSmall
namespace Go.Proofs.Qxb6001183a
open Go.RowKit
set_option linter.unusedSimpArgs false
set_option linter.unusedVariables false

theorem info9 : (Try.prog.info? 9).map (fun i => (i.zero, i.size, i.bytes)) = some (some (.string ⟨#[]⟩), 1, 16) := by kernel_rfl

/-- A cell of a row of strings. -/
def scell (S : Nat → ByteArray) (k : Nat) : Value := .string (S k)

/-- A slice of strings of the call's own. -/
def OwnStrs (B : Nat) (w : World) (a : Option Addr) (len : Nat) (S : Nat → ByteArray) : Prop :=
  0 < len → ∃ g, a = some ⟨g, 0, none⟩ ∧ B ≤ g ∧ w.rowIs g 9 len (scell S)

/-- What copyStrings leaves. -/
def CopyPost (w : World) (len : Nat) (S : Nat → ByteArray) (e : Ending) (w' : World) : Prop :=
  ∃ a' cap', e = .returned (.slice a' len cap') ∧ OwnStrs w.heap.size w' a' len S ∧ Below w.heap.size w w'

set_option maxHeartbeats 400000 in
theorem copyStrings_any (a : Option Addr) (len cap : Nat) (S : Nat → ByteArray) (w : World) (hl : len ≤ 4096) (hnil : a = none → len = 0 ∧ cap = 0) (hS : SArg w a len S) :
    Calls Try.prog 16 #[.slice a len cap] w (CopyPost w len S) := by
  have heq : ∀ (w : World) (a : Option Addr) (n c : Nat), (binOp .eql 29 (.slice a n c) (.slice none 0 0)).run Try.prog w = .ok (.bool a.isNone) w := fun w a n c => Lib.run_eql_slice_nil w 29 9 a n c 0 0 Try.underlying29
  cases a with
  | none =>
    obtain ⟨rfl, rfl⟩ := hnil rfl
    go_enter Try.func16, Try.ntmps16
    go_wp2
    go_ret
    exact ⟨none, 0, rfl, fun h => absurd h (Nat.lt_irrefl _), Below.refl _ _⟩
  | some ad =>
    have hmk := run_make_row' (P := Try.prog) 29 9 (.string ⟨#[]⟩) 16 Try.underlying29 info9 rfl .i64 .i64 len (by omega) (by omega)
    rcases Nat.eq_zero_or_pos len with h0 | hpos
    · subst h0
      have hmk0 : ∀ w, (Instr.makeSlice 29 (.int .i64 0) (.int .i64 0)).run Try.prog w = .ok (.slice (some ⟨w.heap.size, 0, none⟩) 0 0) (w.alloc (.cells (madeCells #[.string ⟨#[]⟩] 0) 9)) := hmk
      go_enter Try.func16, Try.ntmps16
      go_wp2
      refine wp_loop_rounds 1 ?_; rw [rounds_succ]; go_wp2
      go_ret
      exact ⟨_, 0, rfl, fun h => absurd h (Nat.lt_irrefl _), (Below.refl _ _).alloc (Nat.le_refl _) _⟩
    · obtain ⟨b, off, e, hc⟩ := hS hpos
      cases e
      have HC : Hid _ := hc
      have hb : b < w.heap.size := World.block_lt_of_cell? w _ (hc 0 hpos)
      clear hc hS hnil
      go_enter Try.func16, Try.ntmps16
      go_wp2
      go_loopw [4] (fun i wr => ∃ k : Nat, k ≤ len ∧ i = .int .i64 k ∧ wr.rowIs w.heap.size 9 len (fun j => if j < k then scell S j else .string ⟨#[]⟩) ∧ Below w.heap.size w wr) (fun i _ => len - (intOf i).toNat)
      case atStart => exact ⟨0, Nat.zero_le _, rfl, World.rowIs_made _ _ _ _, (Below.refl _ _).alloc (Nat.le_refl _) _⟩
      case round =>
        obtain ⟨k, hk, rfl, hr, hbel⟩ := hrel
        clear hmk heq
        by_cases hlt : k < len
        · have hc0 : wr.cell? ⟨b, off + k, none⟩ = some (.string (S k)) := (hbel.cell (p := ⟨b, off + k, none⟩) hb).trans (HC.out k hlt)
          have hc1 := hr.cell hlt
          have hf := hr.frozen k
          rw [if_neg (Nat.lt_irrefl k)] at hc1
          go_wp2
          go_roundw
          case rel =>
            refine ⟨k + 1, by omega, by go_num, ?_, hbel.setCell (p := ⟨w.heap.size, k, none⟩) (Nat.le_refl _) _⟩
            refine (hr.set k _).congr fun j hj => ?_
            by_cases e : j = k
            · subst e; rw [if_pos rfl, if_pos (by omega)]; rfl
            · rw [if_neg e]
              by_cases e2 : j < k
              · rw [if_pos e2, if_pos (by omega)]
              · rw [if_neg e2, if_neg (by omega)]
          case measure => simp [intOf]; omega
        · have : k = len := by omega
          subst this
          go_wp2
          go_ret
          exact ⟨_, k, rfl, fun _ => ⟨_, rfl, Nat.le_refl _, hr.congr fun j hj => if_pos hj⟩, hbel⟩

/-- The bytes that are no star. -/
def ns (l : List UInt8) : Nat := (l.filter (fun c => c != 42)).length

theorem ns_le (l : List UInt8) : ns l ≤ l.length := List.length_filter_le _ _
theorem ns_nil : ns [] = 0 := rfl
theorem ns_append (a b : List UInt8) : ns (a ++ b) = ns a + ns b := by simp [ns]
theorem ns_one_star (c : UInt8) (h : c = 42) : ns [c] = 0 := by subst h; rfl
theorem ns_one (c : UInt8) (h : c ≠ 42) : ns [c] = 1 := by simp [ns, h]
theorem take_snoc (l : List UInt8) (k : Nat) (h : k < l.length) : l.take (k + 1) = l.take k ++ [l[k]] := List.take_succ_eq_append_getElem h

theorem star_iff (c : UInt8) : ((c.toNat : Int) == 42) = true ↔ c = 42 := by
  rw [beq_iff_eq, ← UInt8.toNat_inj]
  have : (42 : UInt8).toNat = 42 := rfl
  omega

set_option maxHeartbeats 400000 in
theorem nonStar_any (p : ByteArray) (w : World) (hp : p.size ≤ 65536) :
    Calls Try.prog 20 #[.string p] w fun e w' => e = .returned (.int .i64 (ns p.data.toList : Int)) ∧ w' = w := by
  have hlen : p.data.toList.length = p.size := by simp
  go_enter Try.func20, Try.ntmps20
  go_wp2
  go_loop [3, 4] (fun n i => ∃ k m : Nat, k ≤ p.size ∧ i = .int .i64 k ∧ n = .int .i64 m ∧ m ≤ k ∧ Hid (m = ns (p.data.toList.take k))) (fun _ i => p.size - (intOf i).toNat)
  case atStart => exact ⟨0, 0, Nat.zero_le _, rfl, rfl, Nat.le_refl _, rfl⟩
  case round =>
    obtain ⟨k, m, hk, rfl, rfl, hm, HM⟩ := hrel
    by_cases hlt : k < p.size
    · have hk' : k < p.data.toList.length := by omega
      have hvk : p.data.toList[k] = p[k] := rfl
      have HT : Hid (ns (p.data.toList.take (k + 1)) = m + ns [p[k]]) := by
        show _ = _
        rw [take_snoc _ _ hk', ns_append, hvk, HM.out]
      by_cases hst : p[k] = 42
      · have h3 : ((p[k].toNat : Int) != 42) = false := by rw [bne_eq_false_iff_eq, ← beq_iff_eq]; exact (star_iff _).2 hst
        have HZ : Hid (ns [p[k]] = 0) := ns_one_star _ hst
        clear hst hvk
        go_wp2
        go_round
        case rel => exact ⟨k + 1, m, by omega, by go_num, rfl, by omega, (by show _ = _; rw [HT.out, HZ.out]; rfl)⟩
        case measure => simp [intOf]; omega
      · have h3 : ((p[k].toNat : Int) != 42) = true := by rw [bne_iff_ne]; exact fun e => hst ((star_iff _).1 (beq_iff_eq.2 e))
        have HZ : Hid (ns [p[k]] = 1) := ns_one _ hst
        clear hst hvk
        go_wp2
        go_round
        case rel => exact ⟨k + 1, m + 1, by omega, by go_num, by go_num, by omega, (by show _ = _; rw [HT.out, HZ.out])⟩
        case measure => simp [intOf]; omega
    · have hall : p.data.toList.take k = p.data.toList := List.take_of_length_le (by omega)
      rw [hall] at HM
      go_wp2
      go_ret
      refine ⟨?_, rfl⟩
      rw [← HM.out]
      rfl
end Go.Proofs.Qxb6001183a
