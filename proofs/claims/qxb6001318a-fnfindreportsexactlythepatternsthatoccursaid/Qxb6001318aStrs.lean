/-
  THE WALKS of lessBytes, prefixLen, occurs.
-/
import Derived.Test.Qxb6001318aSmall
import Derived.Test.Qxb6001318aLex
import Derived.Deep.LoopGhost
namespace Go.Proofs.Qxb6001318a
open Go.RowKit
set_option linter.unusedSimpArgs false
set_option linter.unusedVariables false

/-- Nothing but draws. -/
def Drawn (w w' : World) : Prop := ∃ n, w' = w.drewN n

theorem drawn0 (w : World) : Drawn w w := ⟨0, rfl⟩
theorem ch_eq (a b : UInt8) : ((a.toNat : Int) == (b.toNat : Int)) = (a == b) := by
  rw [Bool.eq_iff_iff, beq_iff_eq, beq_iff_eq, ← UInt8.toNat_inj]; omega
theorem ch_ne (a b : UInt8) : ((a.toNat : Int) != (b.toNat : Int)) = (a != b) := by
  rw [bne, bne, ch_eq]
theorem ch_lt (a b : UInt8) : decide ((a.toNat : Int) < (b.toNat : Int)) = decide (a < b) := by
  rw [Bool.eq_iff_iff, decide_eq_true_eq, decide_eq_true_eq, UInt8.lt_iff_toNat_lt]; omega

set_option maxHeartbeats 400000 in
theorem lessBytes_any (p q : ByteArray) (w : World) (hp : p.size ≤ 1048576) (hq : q.size ≤ 1048576) :
    Calls Try.prog 27 #[.string p, .string q] w fun e w' => e = .returned (.bool (Pl.ltB p.data.toList q.data.toList)) ∧ Drawn w w' := by
  have HPL : Hid (p.data.toList.length = p.size) := by show _ = _; simp
  have HQL : Hid (q.data.toList.length = q.size) := by show _ = _; simp
  by_cases hlen : q.size < p.size
  · skip
    go_enter Try.func27, Try.ntmps27
    go_wp2
    go_loopg [6] q.size (fun gi iv wi => ∃ i : Nat, i ≤ q.size ∧ Hid (gi = q.size - i) ∧ iv = .int .i64 (i : Int) ∧ Hid (Pl.ltB p.data.toList q.data.toList = Pl.ltB (p.data.toList.drop i) (q.data.toList.drop i)) ∧ Drawn w wi)
    case atStart => exact ⟨0, Nat.zero_le _, rfl, rfl, rfl, drawn0 w⟩
    case round =>
      obtain ⟨i, hi, Hgi, rfl, HL, m, rfl⟩ := hrel
      by_cases hlt : i < q.size
      · have h1 : i < p.size := by omega
        have h2 : i < q.size := by omega
        have HD : Hid (Pl.ltB (p.data.toList.drop i) (q.data.toList.drop i) = if p[i] = q[i] then Pl.ltB (p.data.toList.drop (i + 1)) (q.data.toList.drop (i + 1)) else decide (p[i] < q[i])) := Pl.ltB_drop _ _ i (by rw [HPL.out]; exact h1) (by rw [HQL.out]; exact h2)
        by_cases heq : p[i] = q[i]
        · have h3 : ((p[i].toNat : Int) != (q[i].toNat : Int)) = false := by rw [ch_ne, heq]; simp
          go_wp2
          go_quiet (fail)
          rename Nat => n1
          go_wp2
          go_roundg (q.size - (i + 1))
          case measure => rw [Hgi.out]; omega
          case rel => exact ⟨i + 1, by omega, rfl, by go_num, (by show _ = _; rw [HL.out, HD.out, if_pos heq]), m + n1, by simp⟩
        · have h3 : ((p[i].toNat : Int) != (q[i].toNat : Int)) = true := by rw [ch_ne]; simp [heq]
          rw [if_neg heq] at HD
          go_wp2
          go_quiet (fail)
          rename Nat => n1
          go_wp2
          go_quiet (fail)
          rename Nat => n2
          go_wp2
          go_ret
          refine ⟨?_, m + n1 + n2, by simp [Nat.add_assoc]⟩
          rw [HL.out, HD.out]
          simp [UInt8.lt_iff_toNat_lt]
      · have hE : Hid (Pl.ltB (p.data.toList.drop i) (q.data.toList.drop i) = decide (p.data.toList.length < q.data.toList.length)) := Pl.ltB_end _ _ i (.inr (by rw [HQL.out]; omega)) (by rw [HPL.out]; omega) (by rw [HQL.out]; omega)
        go_wp2
        go_ret
        refine ⟨?_, m, rfl⟩
        rw [HL.out, hE.out, HPL.out, HQL.out]
        simp
  · skip
    go_enter Try.func27, Try.ntmps27
    go_wp2
    go_loopg [6] p.size (fun gi iv wi => ∃ i : Nat, i ≤ p.size ∧ Hid (gi = p.size - i) ∧ iv = .int .i64 (i : Int) ∧ Hid (Pl.ltB p.data.toList q.data.toList = Pl.ltB (p.data.toList.drop i) (q.data.toList.drop i)) ∧ Drawn w wi)
    case atStart => exact ⟨0, Nat.zero_le _, rfl, rfl, rfl, drawn0 w⟩
    case round =>
      obtain ⟨i, hi, Hgi, rfl, HL, m, rfl⟩ := hrel
      by_cases hlt : i < p.size
      · have h1 : i < p.size := by omega
        have h2 : i < q.size := by omega
        have HD : Hid (Pl.ltB (p.data.toList.drop i) (q.data.toList.drop i) = if p[i] = q[i] then Pl.ltB (p.data.toList.drop (i + 1)) (q.data.toList.drop (i + 1)) else decide (p[i] < q[i])) := Pl.ltB_drop _ _ i (by rw [HPL.out]; exact h1) (by rw [HQL.out]; exact h2)
        by_cases heq : p[i] = q[i]
        · have h3 : ((p[i].toNat : Int) != (q[i].toNat : Int)) = false := by rw [ch_ne, heq]; simp
          go_wp2
          go_quiet (fail)
          rename Nat => n1
          go_wp2
          go_roundg (p.size - (i + 1))
          case measure => rw [Hgi.out]; omega
          case rel => exact ⟨i + 1, by omega, rfl, by go_num, (by show _ = _; rw [HL.out, HD.out, if_pos heq]), m + n1, by simp⟩
        · have h3 : ((p[i].toNat : Int) != (q[i].toNat : Int)) = true := by rw [ch_ne]; simp [heq]
          rw [if_neg heq] at HD
          go_wp2
          go_quiet (fail)
          rename Nat => n1
          go_wp2
          go_quiet (fail)
          rename Nat => n2
          go_wp2
          go_ret
          refine ⟨?_, m + n1 + n2, by simp [Nat.add_assoc]⟩
          rw [HL.out, HD.out]
          simp [UInt8.lt_iff_toNat_lt]
      · have hE : Hid (Pl.ltB (p.data.toList.drop i) (q.data.toList.drop i) = decide (p.data.toList.length < q.data.toList.length)) := Pl.ltB_end _ _ i (.inl (by rw [HPL.out]; omega)) (by rw [HPL.out]; omega) (by rw [HQL.out]; omega)
        go_wp2
        go_ret
        refine ⟨?_, m, rfl⟩
        rw [HL.out, hE.out, HPL.out, HQL.out]
        simp

set_option maxHeartbeats 400000 in
theorem prefixLen_any (p q : ByteArray) (w : World) (hp : p.size ≤ 1048576) (hq : q.size ≤ 1048576) :
    Calls Try.prog 21 #[.string p, .string q] w fun e w' => e = .returned (.int .i64 ((Pl.lcp p.data.toList q.data.toList : Nat) : Int)) ∧ Drawn w w' := by
  have HPL : Hid (p.data.toList.length = p.size) := by show _ = _; simp
  have HQL : Hid (q.data.toList.length = q.size) := by show _ = _; simp
  by_cases hlen : q.size < p.size
  · go_enter Try.func21, Try.ntmps21
    go_wp2
    go_loopg [6] q.size (fun gi iv wi => ∃ i : Nat, i ≤ q.size ∧ Hid (gi = q.size - i) ∧ iv = .int .i64 (i : Int) ∧ Hid (Pl.lcp p.data.toList q.data.toList = i + Pl.lcp (p.data.toList.drop i) (q.data.toList.drop i)) ∧ Drawn w wi)
    case atStart => exact ⟨0, Nat.zero_le _, rfl, rfl, (by show _ = _; simp), drawn0 w⟩
    case round =>
      obtain ⟨i, hi, Hgi, rfl, HL, m, rfl⟩ := hrel
      by_cases hlt : i < q.size
      · have h1 : i < p.size := by omega
        have h2 : i < q.size := by omega
        have HD : Hid (Pl.lcp (p.data.toList.drop i) (q.data.toList.drop i) = if p[i] = q[i] then Pl.lcp (p.data.toList.drop (i + 1)) (q.data.toList.drop (i + 1)) + 1 else 0) := Pl.lcp_drop _ _ i (by rw [HPL.out]; exact h1) (by rw [HQL.out]; exact h2)
        by_cases heq : p[i] = q[i]
        · have h3 : ((p[i].toNat : Int) == (q[i].toNat : Int)) = true := by rw [ch_eq, heq]; simp
          go_wp2
          go_quiet (fail)
          rename Nat => n1
          go_wp2
          go_roundg (q.size - (i + 1))
          case measure => rw [Hgi.out]; omega
          case rel => exact ⟨i + 1, by omega, rfl, by go_num, (by show _ = _; rw [HL.out, HD.out, if_pos heq]; omega), m + n1, by simp⟩
        · have h3 : ((p[i].toNat : Int) == (q[i].toNat : Int)) = false := by rw [ch_eq]; simp [heq]
          go_wp2
          go_quiet (fail)
          rename Nat => n1
          go_wp2
          go_ret
          refine ⟨?_, m + n1, by simp⟩
          rw [HL.out, HD.out, if_neg heq]
          rfl
      · have hE : Hid (Pl.lcp (p.data.toList.drop i) (q.data.toList.drop i) = 0) := Pl.lcp_end _ _ i (.inr (by rw [HQL.out]; omega))
        go_wp2
        go_quiet (fail)
        rename Nat => n1
        go_wp2
        go_ret
        refine ⟨?_, m + n1, by simp⟩
        rw [HL.out, hE.out]
        rfl
  · go_enter Try.func21, Try.ntmps21
    go_wp2
    go_loopg [6] p.size (fun gi iv wi => ∃ i : Nat, i ≤ p.size ∧ Hid (gi = p.size - i) ∧ iv = .int .i64 (i : Int) ∧ Hid (Pl.lcp p.data.toList q.data.toList = i + Pl.lcp (p.data.toList.drop i) (q.data.toList.drop i)) ∧ Drawn w wi)
    case atStart => exact ⟨0, Nat.zero_le _, rfl, rfl, (by show _ = _; simp), drawn0 w⟩
    case round =>
      obtain ⟨i, hi, Hgi, rfl, HL, m, rfl⟩ := hrel
      by_cases hlt : i < p.size
      · have h1 : i < p.size := by omega
        have h2 : i < q.size := by omega
        have HD : Hid (Pl.lcp (p.data.toList.drop i) (q.data.toList.drop i) = if p[i] = q[i] then Pl.lcp (p.data.toList.drop (i + 1)) (q.data.toList.drop (i + 1)) + 1 else 0) := Pl.lcp_drop _ _ i (by rw [HPL.out]; exact h1) (by rw [HQL.out]; exact h2)
        by_cases heq : p[i] = q[i]
        · have h3 : ((p[i].toNat : Int) == (q[i].toNat : Int)) = true := by rw [ch_eq, heq]; simp
          go_wp2
          go_quiet (fail)
          rename Nat => n1
          go_wp2
          go_roundg (p.size - (i + 1))
          case measure => rw [Hgi.out]; omega
          case rel => exact ⟨i + 1, by omega, rfl, by go_num, (by show _ = _; rw [HL.out, HD.out, if_pos heq]; omega), m + n1, by simp⟩
        · have h3 : ((p[i].toNat : Int) == (q[i].toNat : Int)) = false := by rw [ch_eq]; simp [heq]
          go_wp2
          go_quiet (fail)
          rename Nat => n1
          go_wp2
          go_ret
          refine ⟨?_, m + n1, by simp⟩
          rw [HL.out, HD.out, if_neg heq]
          rfl
      · have hE : Hid (Pl.lcp (p.data.toList.drop i) (q.data.toList.drop i) = 0) := Pl.lcp_end _ _ i (.inl (by rw [HPL.out]; omega))
        go_wp2
        go_quiet (fail)
        rename Nat => n1
        go_wp2
        go_ret
        refine ⟨?_, m + n1, by simp⟩
        rw [HL.out, hE.out]
        rfl

set_option maxHeartbeats 1000000 in
theorem occurs_any (p q : ByteArray) (w : World) (hp : p.size ≤ 1048576) (hq : q.size ≤ 1048576) :
    Calls Try.prog 18 #[.string p, .string q] w fun e w' => e = .returned (.bool (Pl.occ p.data.toList q.data.toList)) ∧ Drawn w w' := by
  have HPL : Hid (p.data.toList.length = p.size) := by show _ = _; simp
  have HQL : Hid (q.data.toList.length = q.size) := by show _ = _; simp
  go_enter Try.func18, Try.ntmps18
  go_wp2
  go_loopg [5] (q.size + 1) (fun gi iv wi => ∃ i : Nat, i ≤ q.size + 1 ∧ Hid (gi = q.size + 1 - i) ∧ iv = .int .i64 (i : Int) ∧ Hid (Pl.occ p.data.toList q.data.toList = (decide (i ≤ q.size) && Pl.occ p.data.toList (q.data.toList.drop i))) ∧ Drawn w wi)
  case atStart => exact ⟨0, Nat.zero_le _, rfl, rfl, (by show _ = _; simp), drawn0 w⟩
  case round =>
    obtain ⟨i, hi, Hgi, rfl, HL, m, rfl⟩ := hrel
    by_cases hlt : i + p.size ≤ q.size
    · have HO : Hid (Pl.occ p.data.toList (q.data.toList.drop i) = (p.data.toList.isPrefixOf (q.data.toList.drop i) || (decide (i < q.size) && Pl.occ p.data.toList (q.data.toList.drop (i + 1))))) := by
        show _ = _
        have := Pl.occ_drop p.data.toList q.data.toList i (by rw [HQL.out]; omega)
        rw [HQL.out] at this
        exact this
      have HL2 : Hid (Pl.occ p.data.toList q.data.toList = Pl.occ p.data.toList (q.data.toList.drop i)) := by
        show _ = _
        rw [HL.out]; simp; intro h; omega
      go_wp2
      go_loopg [6] p.size (fun gj jv wj => ∃ j : Nat, j ≤ p.size ∧ Hid (gj = p.size - j) ∧ jv = .int .i64 (j : Int) ∧ Hid (p.data.toList.isPrefixOf (q.data.toList.drop i) = (p.data.toList.drop j).isPrefixOf (q.data.toList.drop (i + j))) ∧ Drawn w wj)
      case atStart => exact ⟨0, Nat.zero_le _, rfl, rfl, (by show _ = _; simp), m, rfl⟩
      case round =>
        clear m
        obtain ⟨j, hj, Hgj, rfl, HP, m, rfl⟩ := hrel
        by_cases hjl : j < p.size
        · obtain ⟨k, Hk⟩ : ∃ k, Hid (k = i + j) := ⟨i + j, rfl⟩
          have h1 : k < q.size := by rw [Hk.out]; omega
          have hij : (i : Int) + (j : Int) = (k : Int) := by rw [Hk.out]; omega
          have hkj : Hid (i + (j + 1) = k + 1) := by show _ = _; rw [Hk.out]; omega
          rw [← Hk.out] at HP
          have HD : Hid ((p.data.toList.drop j).isPrefixOf (q.data.toList.drop k) = (q[k] == p[j] && (p.data.toList.drop (j + 1)).isPrefixOf (q.data.toList.drop (k + 1)))) := by
            show _ = _
            rw [List.drop_eq_getElem_cons (show j < p.data.toList.length by rw [HPL.out]; exact hjl), List.drop_eq_getElem_cons (show k < q.data.toList.length by rw [HQL.out]; exact h1)]
            show (_ == _ && _) = _
            rw [Bool.beq_comm]; rfl
          by_cases heq : q[k] = p[j]
          · have h3 : ((q[k].toNat : Int) == (p[j].toNat : Int)) = true := by rw [ch_eq, heq]; simp
            rw [show (q[k] == p[j]) = true by simp [heq], Bool.true_and] at HD
            go_wp2
            go_quiet (fail)
            rename Nat => n1
            go_wp2
            go_roundg (p.size - (j + 1))
            case measure => rw [Hgj.out]; omega
            case rel => exact ⟨j + 1, by omega, rfl, by go_num, (by show _ = _; rw [HP.out, HD.out, hkj.out]), m + n1, by simp⟩
          · have h3 : ((q[k].toNat : Int) == (p[j].toNat : Int)) = false := by rw [ch_eq]; simp [heq]
            rw [show (q[k] == p[j]) = false by simp [heq], Bool.false_and] at HD
            have hjp : ((j : Int) == (p.size : Int)) = false := by rw [beq_eq_false_iff_ne]; omega
            go_wp2
            go_quiet (fail)
            rename Nat => n1
            go_wp2
            go_roundg (q.size + 1 - (i + 1))
            case measure => rw [Hgi.out]; omega
            case rel =>
              refine ⟨i + 1, by omega, rfl, by go_num, ?_, m + n1, by simp⟩
              show _ = _
              rw [HL2.out, HO.out, HP.out, HD.out]
              rfl
        · have ej : j = p.size := by omega
          subst j
          have hpr : Hid ((p.data.toList.drop p.size).isPrefixOf (q.data.toList.drop (i + p.size)) = true) := by
            show _ = _
            rw [← HPL.out, List.drop_length]; rfl
          go_wp2
          go_quiet (fail)
          rename Nat => n1
          go_wp2
          go_ret
          refine ⟨?_, m + n1, by simp⟩
          rw [HL2.out, HO.out, HP.out, hpr.out]
          rfl
    · have hS : Hid (Pl.occ p.data.toList q.data.toList = false) := by
        show _ = _
        rw [HL.out]
        by_cases h : i ≤ q.size
        · rw [Pl.occ_short _ _ (by rw [List.length_drop, HPL.out, HQL.out]; omega)]; simp
        · simp [h]
      go_wp2
      go_ret
      exact ⟨by rw [hS.out]; rfl, m, rfl⟩
end Go.Proofs.Qxb6001318a
