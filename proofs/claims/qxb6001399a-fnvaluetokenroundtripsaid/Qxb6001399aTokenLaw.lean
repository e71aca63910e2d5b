/-
  THE WALKS of value (at a token), ZZScanValue (at a token), zzBytes_FnValueTokenRoundTrip, FnValueTokenRoundTrip.
-/
import Derived.Test.Qxb6001399aScanWalk
namespace Go.Proofs.Qxb6001399a
open Go.RowKit
set_option linter.unusedSimpArgs false
set_option linter.unusedVariables false

set_option maxHeartbeats 400000 in
theorem value_token (hIB : SaidIndexByte) (b : Nat) (s : ByteArray) (p q1 : Nat) (w : World) (hS : ScanAt b s p w) (hpq : p ≤ q1) (hq1 : q1 ≤ s.size) (hs : s.size ≤ 4194304)
    (HY : Hid (∀ j (hj : j < s.size), p ≤ j → j < q1 → tok s[j] = true)) (HN : Hid (∀ (hj : q1 < s.size), tok s[q1] = false)) (HQ : Hid (∀ (hj : p < s.size), ((s[p].toNat : Int) == 34) = false)) :
    Calls Try.prog 12 #[.pointer (some ⟨b, 0, none⟩)] w fun e w' => e = .returned (.string (s.extract p q1)) ∧ ScanAt b s (q1 : Int) w' ∧ Below b w w' := by
  have hcon : Calls Try.prog 14 #[.pointer (some ⟨b, 0, none⟩), .int .u8 34] w fun e w' => e = .returned (.bool false) ∧ ScanAt b s (p : Int) w' ∧ Below b w w' := by
    by_cases hp : p < s.size
    · exact consume_no b s p 34 w hS hp hs (HQ.out hp)
    · exact consume_end b s p 34 w hS (by omega) (by omega)
  have HC : Hid _ := hcon
  clear hcon
  go_enter Try.func12, Try.ntmps12
  go_wp2_with fail
  refine Calls.mono HC.out ?_
  rintro e w1 ⟨rfl, hS1, b1⟩
  go_wp2_with fail
  refine (token_any hIB b s p q1 w1 hS1 hpq hq1 hs HY HN).mono ?_
  rintro e w2 ⟨rfl, hS2, b2⟩
  go_wp2
  go_ret
  exact ⟨rfl, hS2, b1.trans b2⟩

set_option maxHeartbeats 400000 in
theorem scan_token (hIB : SaidIndexByte) (s : ByteArray) (pi : Int) (p q1 : Nat) (w : World) (hpi : pi = (p : Int)) (hpq : p ≤ q1) (hq1 : q1 ≤ s.size) (hs : s.size ≤ 4194304)
    (HY : Hid (∀ j (hj : j < s.size), p ≤ j → j < q1 → tok s[j] = true)) (HN : Hid (∀ (hj : q1 < s.size), tok s[q1] = false)) (HQ : Hid (∀ (hj : p < s.size), ((s[p].toNat : Int) == 34) = false)) :
    Calls Try.prog 8 #[.string s, .int .i64 pi] w fun e w' => e = .returned (.tuple #[.string (s.extract p q1), .int .i64 (q1 : Int)]) ∧ Below w.heap.size w w' := by
  subst hpi
  have hS : ScanAt w.heap.size s (p : Int) (w.alloc (.cells #[.string s, .int .i64 p] 32)) := heap_alloc_new w _
  go_enter Try.func8, Try.ntmps8
  go_wp2_with fail
  refine (value_token hIB w.heap.size s p q1 _ hS hpq hq1 hs HY HN HQ).mono ?_
  rintro e w2 ⟨rfl, hS2, b2⟩
  have h1 := hS2.cell1
  go_wp2
  go_quiet (fail)
  go_wp2
  go_ret2
  exact ⟨rfl, below_drewN (((Below.refl _ _).alloc (Nat.le_refl _) _).trans b2) _⟩

theorem zzBytesT (t rest : ByteArray) (w : World) (h1 : t.size ≤ maxLen) (h2 : rest.size ≤ maxLen) :
    Calls Try.prog 9 #[.string t, .string rest] w fun e w' => (∃ b, e = .returned (.bool b)) ∧ w' = w := by
  unfold maxLen at h1 h2
  go_enter Try.func9, Try.ntmps9
  go_wp2
  all_goals
    go_ret
    exact ⟨⟨_, rfl⟩, rfl⟩

theorem join_left (t rest : ByteArray) (j : Nat) (h : j < t.size) (hj : j < (t ++ rest).size) : (t ++ rest)[j] = t[j] := by
  rw [ByteArray.getElem_append_left h]
theorem join_right (t rest : ByteArray) (h : 0 < rest.size) (hj : t.size < (t ++ rest).size) : (t ++ rest)[t.size] = rest[0] := by
  rw [ByteArray.getElem_append_right (Nat.le_refl _)]
  congr 1
  omega
theorem join_cut (t rest : ByteArray) : (t ++ rest).extract 0 t.size = t := by
  exact ByteArray.extract_append_eq_left rfl

theorem tok_not_quote (c : UInt8) (h : tok c = true) : ((c.toNat : Int) == 34) = false := by
  rw [beq_eq_false_iff_ne]
  rw [tok_iff] at h
  intro e
  rw [e] at h
  revert h
  decide

set_option maxHeartbeats 400000 in
theorem token_law (hIB : SaidIndexByte) (t rest : ByteArray) (w : World) (h1 : t.size ≤ maxLen) (h2 : rest.size ≤ maxLen) :
    Calls Try.prog 4 #[.string t, .string rest] w fun e w' => e = .returned (.bool true) ∧ Below w.heap.size w w' := by
  have HB := zzBytesT t rest w h1 h2
  have HB' : Hid _ := HB
  clear HB
  unfold maxLen at h1 h2
  go_enter Try.func4, Try.ntmps4
  go_wp2_with fail
  refine Calls.mono HB'.out ?_
  rintro e w' ⟨⟨b, rfl⟩, rfl⟩
  cases b
  · go_wp2
    go_ret
    exact ⟨rfl, Below.refl _ _⟩
  by_cases ht : t.size ≤ 524288
  case neg =>
    go_wp2
    go_ret
    exact ⟨rfl, Below.refl _ _⟩
  by_cases hr : rest.size ≤ 524288
  case neg =>
    go_wp2
    go_ret
    exact ⟨rfl, Below.refl _ _⟩
  go_wp2
  go_loop [5] (fun i => ∃ k : Nat, k ≤ t.size ∧ i = .int .i64 k ∧ Hid (∀ j (hj : j < t.size), j < k → tok t[j] = true)) (fun i => t.size - (intOf i).toNat)
  case atStart => exact ⟨0, Nat.zero_le _, rfl, fun j hj h => by omega⟩
  case round =>
    obtain ⟨k, hk, rfl, HA⟩ := hrel
    by_cases hlt : k < t.size
    · cases hkt : tok t[k]
      · go_wp2_with (go_at_call 10; refine (tok_law _ _).mono ?_; rintro e w'' ⟨rfl, rfl⟩)
        go_ret
        exact ⟨rfl, Below.refl _ _⟩
      · go_wp2_with (go_at_call 10; refine (tok_law _ _).mono ?_; rintro e w'' ⟨rfl, rfl⟩)
        go_round
        case rel =>
          refine ⟨k + 1, by omega, by go_num, fun j hj h => ?_⟩
          by_cases e : j = k
          · subst e; exact hkt
          · exact HA.out j hj (by omega)
        case measure => simp [intOf]; omega
    · have hkk : k = t.size := by omega
      subst hkk
      have HY : Hid (∀ j (hj : j < (t ++ rest).size), 0 ≤ j → j < t.size → tok (t ++ rest)[j] = true) := by
        intro j hj _ h
        rw [join_left t rest j h]
        exact HA.out j h h
      have hsz : (t ++ rest).size = t.size + rest.size := ByteArray.size_append
      have hsz1 : (t ++ rest).size ≤ 4194304 := by omega
      have hsz2 : t.size ≤ (t ++ rest).size := by omega
      have HSZ : Hid _ := hsz
      clear hsz
      by_cases hr0 : 0 < rest.size
      · cases hrt : tok rest[0]
        · have HN : Hid (∀ (hj : t.size < (t ++ rest).size), tok (t ++ rest)[t.size] = false) := by
            intro hj
            rw [join_right t rest hr0]
            exact hrt
          by_cases ht0 : 0 < t.size
          · have hz : ((t.size : Int) == 0) = false := by rw [beq_eq_false_iff_ne]; omega
            have HQ : Hid (∀ (hj : 0 < (t ++ rest).size), (((t ++ rest)[0].toNat : Int) == 34) = false) := by
              intro hj
              rw [join_left t rest 0 ht0]
              exact tok_not_quote _ (HA.out 0 ht0 ht0)
            go_wp2_with (first | (go_at_call 10; refine (tok_law _ _).mono ?_; rintro e w'' ⟨rfl, rfl⟩) | (go_at_call 8; refine (scan_token hIB (t ++ rest) 0 0 t.size _ rfl (Nat.zero_le _) hsz2 hsz1 HY HN HQ).mono ?_; rintro e w2 ⟨rfl, b2⟩; rw [join_cut]))
            go_ret
            refine ⟨?_, b2⟩
            simp
          · have hz : ((t.size : Int) == 0) = true := by rw [beq_iff_eq]; omega
            cases hq : ((rest[0].toNat : Int) == 34)
            · have HQ : Hid (∀ (hj : 0 < (t ++ rest).size), (((t ++ rest)[0].toNat : Int) == 34) = false) := by
                intro hj
                have e0 : t.size = 0 := by omega
                have := join_right t rest hr0 (by omega)
                simp only [e0] at this
                rw [this]
                exact hq
              go_wp2_with (first | (go_at_call 10; refine (tok_law _ _).mono ?_; rintro e w'' ⟨rfl, rfl⟩) | (go_at_call 8; refine (scan_token hIB (t ++ rest) 0 0 t.size _ rfl (Nat.zero_le _) hsz2 hsz1 HY HN HQ).mono ?_; rintro e w2 ⟨rfl, b2⟩; rw [join_cut]))
              go_ret
              refine ⟨?_, b2⟩
              simp
            · go_wp2_with (go_at_call 10; refine (tok_law _ _).mono ?_; rintro e w'' ⟨rfl, rfl⟩)
              go_ret
              exact ⟨rfl, Below.refl _ _⟩
        · go_wp2_with (go_at_call 10; refine (tok_law _ _).mono ?_; rintro e w'' ⟨rfl, rfl⟩)
          go_ret
          exact ⟨rfl, Below.refl _ _⟩
      · have HN : Hid (∀ (hj : t.size < (t ++ rest).size), tok (t ++ rest)[t.size] = false) := by
          intro hj
          have := HSZ.out
          omega
        have HQ : Hid (∀ (hj : 0 < (t ++ rest).size), (((t ++ rest)[0].toNat : Int) == 34) = false) := by
          intro hj
          have := HSZ.out
          have h0 : 0 < t.size := by omega
          rw [join_left t rest 0 h0]
          exact tok_not_quote _ (HA.out 0 h0 h0)
        go_wp2_with (go_at_call 8; refine (scan_token hIB (t ++ rest) 0 0 t.size _ rfl (Nat.zero_le _) hsz2 hsz1 HY HN HQ).mono ?_; rintro e w2 ⟨rfl, b2⟩; rw [join_cut])
        go_ret
        refine ⟨?_, b2⟩
        simp
end Go.Proofs.Qxb6001399a
