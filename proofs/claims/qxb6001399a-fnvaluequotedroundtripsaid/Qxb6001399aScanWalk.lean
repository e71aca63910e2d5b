/-
  THE WALKS of the scanner: consume, token.
-/
import Derived.Test.Qxb6001399aTokWalk
import Derived.Deep.QuietTactic
import Derived.BigQuiet
namespace Go.Proofs.Qxb6001399a
open Go.RowKit
set_option linter.unusedSimpArgs false
set_option linter.unusedVariables false

/-- The scanner in block b: its text and its place. -/
def ScanAt (b : Nat) (s : ByteArray) (pos : Int) (w : World) : Prop := w.heap[b]? = some (.cells #[.string s, .int .i64 pos] 32 (0, 0))

section
variable {b : Nat} {s : ByteArray} {pos : Int} {w : World}
theorem ScanAt.cell0 (h : ScanAt b s pos w) : w.cell? ⟨b, 0, none⟩ = some (.string s) := by simp [World.cell?, show w.heap[b]? = _ from h]
theorem ScanAt.cell1 (h : ScanAt b s pos w) : w.cell? ⟨b, 1, none⟩ = some (.int .i64 pos) := by simp [World.cell?, show w.heap[b]? = _ from h]
theorem ScanAt.free1 (h : ScanAt b s pos w) : w.frozen? ⟨b, 1, none⟩ = false := by simp [World.frozen?, show w.heap[b]? = _ from h]
theorem ScanAt.lt (h : ScanAt b s pos w) : b < w.heap.size := by
  rcases Nat.lt_or_ge b w.heap.size with h' | h'
  · exact h'
  · have h0 : w.heap[b]? = _ := h
    simp [Array.getElem?_eq_none h'] at h0
theorem ScanAt.set (h : ScanAt b s pos w) (q : Int) : ScanAt b s q (w.setCell ⟨b, 1, none⟩ (.int .i64 q)) := by
  have h0 : w.heap[b]? = _ := h
  show (w.setCell ⟨b, 1, none⟩ (.int .i64 q)).heap[b]? = _
  simp [World.setCell, Array.getElem?_modify, h0]
theorem ScanAt.drewN (h : ScanAt b s pos w) (n : Nat) : ScanAt b s pos (w.drewN n) := by
  have h0 : w.heap[b]? = _ := h
  show (w.drewN n).heap[b]? = _
  simpa using h0
theorem ScanAt.below {B : Nat} {w' : World} (h : ScanAt b s pos w) (hb : Below B w w') (hB : b < B) : ScanAt b s pos w' := (hb.block b hB).trans h
end
theorem below_set {b : Nat} {w w' : World} (h : Below b w w') (v : Value) : Below b w (w'.setCell ⟨b, 1, none⟩ v) := h.setCell (p := ⟨b, 1, none⟩) (Nat.le_refl _) v

set_option maxHeartbeats 400000 in
theorem consume_yes (b : Nat) (s : ByteArray) (p : Nat) (c : Int) (w : World) (hS : ScanAt b s p w) (hp : p < s.size) (hs : s.size ≤ 4194304) (hc : ((s[p].toNat : Int) == c) = true) :
    Calls Try.prog 14 #[.pointer (some ⟨b, 0, none⟩), .int .u8 c] w fun e w' => e = .returned (.bool true) ∧ ScanAt b s ((p + 1 : Nat) : Int) w' ∧ Below b w w' := by
  have h0 := hS.cell0
  have h1 := hS.cell1
  have h2 := hS.free1
  go_enter Try.func14, Try.ntmps14
  go_wp2
  go_quiet (fail)
  go_wp2
  go_ret
  exact ⟨rfl, (hS.drewN nq).set _, below_set (below_drewN (Below.refl _ _) nq) _⟩

set_option maxHeartbeats 400000 in
theorem consume_no (b : Nat) (s : ByteArray) (p : Nat) (c : Int) (w : World) (hS : ScanAt b s p w) (hp : p < s.size) (hs : s.size ≤ 4194304) (hc : ((s[p].toNat : Int) == c) = false) :
    Calls Try.prog 14 #[.pointer (some ⟨b, 0, none⟩), .int .u8 c] w fun e w' => e = .returned (.bool false) ∧ ScanAt b s (p : Int) w' ∧ Below b w w' := by
  have h0 := hS.cell0
  have h1 := hS.cell1
  have h2 := hS.free1
  go_enter Try.func14, Try.ntmps14
  go_wp2
  go_quiet (fail)
  go_wp2
  go_ret
  exact ⟨rfl, (hS.drewN nq), (below_drewN (Below.refl _ _) nq)⟩

set_option maxHeartbeats 400000 in
theorem consume_end (b : Nat) (s : ByteArray) (p : Nat) (c : Int) (w : World) (hS : ScanAt b s p w) (hp : s.size ≤ p) (hs : p ≤ 4194304) :
    Calls Try.prog 14 #[.pointer (some ⟨b, 0, none⟩), .int .u8 c] w fun e w' => e = .returned (.bool false) ∧ ScanAt b s (p : Int) w' ∧ Below b w w' := by
  have h0 := hS.cell0
  have h1 := hS.cell1
  have h2 := hS.free1
  have hd : decide (p < s.size) = false := by simp; omega
  go_enter Try.func14, Try.ntmps14
  go_wp2
  go_quiet (fail)
  go_wp2
  go_ret
  exact ⟨rfl, (hS.drewN nq), (below_drewN (Below.refl _ _) nq)⟩

/-- Where the scanner stands. -/
def posOf (b : Nat) (w : World) : Nat := match w.cell? ⟨b, 1, none⟩ with | some (.int _ n) => n.toNat | _ => 0
theorem ScanAt.posOf {b : Nat} {s : ByteArray} {p : Nat} {w : World} (h : ScanAt b s p w) : posOf b w = p := by simp [Qxb6001399a.posOf, h.cell1]
theorem ScanAt.posOf_set {b : Nat} {s : ByteArray} {p : Int} {w : World} {q : Nat} (h : ScanAt b s p w) : Qxb6001399a.posOf b (w.setCell ⟨b, 1, none⟩ (.int .i64 ((q : Int) + 1))) = q + 1 :=
  ScanAt.posOf (s := s) (p := q + 1) (h.set ((q + 1 : Nat) : Int))

set_option maxHeartbeats 400000 in
theorem token_any (hIB : SaidIndexByte) (b : Nat) (s : ByteArray) (p q1 : Nat) (w : World) (hS : ScanAt b s p w) (hpq : p ≤ q1) (hq1 : q1 ≤ s.size) (hs : s.size ≤ 4194304)
    (HY : Hid (∀ j (hj : j < s.size), p ≤ j → j < q1 → tok s[j] = true)) (HN : Hid (∀ (hj : q1 < s.size), tok s[q1] = false)) :
    Calls Try.prog 15 #[.pointer (some ⟨b, 0, none⟩)] w fun e w' => e = .returned (.string (s.extract p q1)) ∧ ScanAt b s (q1 : Int) w' ∧ Below b w w' := by
  have h0 := hS.cell0
  have h1 := hS.cell1
  go_enter Try.func15, Try.ntmps15
  go_wp2
  go_loopw [] (fun wr => ∃ q : Nat, p ≤ q ∧ q ≤ q1 ∧ ScanAt b s q wr ∧ Below b w wr) (fun wr => s.size - posOf b wr)
  case atStart => exact ⟨p, Nat.le_refl _, hpq, hS, Below.refl _ _⟩
  case round =>
    obtain ⟨q, hq, hqq, hSr, hbel⟩ := hrel
    have HP : Hid _ := hSr.posOf
    clear h0 h1
    have h0 := hSr.cell0
    have h1 := hSr.cell1
    have h2 := hSr.free1
    by_cases hlt : q < q1
    · have hqs : q < s.size := by omega
      have ht : tok s[q] = true := HY.out q hqs hq hlt
      go_wp2
      go_quiet ((go_at_call 18; exact Calls.quiet_of_same (tok_reg hIB _ _)))
      go_wp2
      go_roundw
      case rel => exact ⟨q + 1, by omega, by omega, (hSr.drewN nq).set _, below_set (below_drewN hbel nq) _⟩
      case measure => 
        rw [HP.out, (hSr.drewN nq).posOf_set]
        omega
    · obtain rfl : q = q1 := by omega
      by_cases hqs : q < s.size
      · have ht : tok s[q] = false := HN.out hqs
        go_wp2
        go_quiet ((go_at_call 18; exact Calls.quiet_of_same (tok_reg hIB _ _)))
        go_wp2
        go_quiet (fail)
        go_wp2
        go_ret
        exact ⟨rfl, (hSr.drewN _).drewN _, below_drewN (below_drewN hbel _) _⟩
      · have hd : decide (q < s.size) = false := by simp; omega
        go_wp2
        go_quiet ((go_at_call 18; exact Calls.quiet_of_same (tok_reg hIB _ _)))
        go_wp2
        go_quiet (fail)
        go_wp2
        go_ret
        exact ⟨rfl, (hSr.drewN _).drewN _, below_drewN (below_drewN hbel _) _⟩
end Go.Proofs.Qxb6001399a
