/-
  THE WALK of zzAppendQuoted.
-/
import Derived.Test.Qxb6001399aScanWalk
import Derived.Test.Qxb6001399aQuotPlain
import Derived.Laws.IdiomStrings
import Derived.Lib.UnsafeStr
import Derived.Lib.AppendStr
namespace Go.Proofs.Qxb6001399a
open Go.RowKit
set_option linter.unusedSimpArgs false
set_option linter.unusedVariables false

theorem info5 : (Try.prog.info? 5).map (fun i => (i.zero, i.size, i.bytes)) = some (some (.int .u8 0), 1, 1) := by kernel_rfl

/-- 'string(b)' of an owned row of bytes. -/
theorem string_of_own {w : World} {B : Nat} {v : Value} {l : List UInt8} (h : w.ownsRow B 5 1 v l.length (Lib.byteCells l)) :
    (convert 23 9 v).run Try.prog w = .ok (.string ⟨l.toArray⟩) w := by
  rcases h.2 with ⟨rfl, h0⟩ | ⟨g, cap, cur, rfl, hb, hg, hn, hc, hs, ht⟩
  · have : l = [] := List.eq_nil_of_length_eq_zero h0
    subst this
    rw [run_convert_bytes_string w 23 9 5 none 0 0 Try.underlying23 Try.underlying5 Try.underlying9]
    rfl
  · refine run_convert_bytes_back (P := Try.prog) w 23 9 5 ⟨g, 0, none⟩ cap l Try.underlying23 Try.underlying5 Try.underlying9 fun j hj => ?_
    exact h.cells (g := g) rfl j _ (by simp [Lib.byteCells, hj])

/-- An owned row of bytes, its bytes told. -/
def Row (B : Nat) (v : Value) (l : List UInt8) (w : World) : Prop := w.ownsRow B 5 1 v l.length (Lib.byteCells l)

theorem Row.snoc {B : Nat} {v' : Value} {l : List UInt8} {w' : World} {c : Int} {d : UInt8} (hd : c = (d.toNat : Int)) (h : w'.ownsRow B 5 1 v' (l.length + 1) (Lib.byteCells l ++ [.int .u8 c])) : Row B v' (l ++ [d]) w' := by
  subst hd
  have e1 : (l ++ [d]).length = l.length + 1 := by simp
  have e2 : Lib.byteCells (l ++ [d]) = Lib.byteCells l ++ [.int .u8 (d.toNat : Int)] := by rw [Lib.byteCells_append]; rfl
  unfold Row
  rw [e1, e2]
  exact h

set_option maxHeartbeats 1000000 in
theorem appendQuoted (B : Nat) (v0 : Value) (v : ByteArray) (l : List UInt8) (w : World) (hR : Row B v0 l w) (hBw : B ≤ w.heap.size) (hl : l.length ≤ 1048576) (hv : v.size ≤ 1048576) :
    Calls Try.prog 7 #[v0, .string v] w fun e w' => ∃ v', e = .returned v' ∧ Row B v' (l ++ (34 :: (Quot.qs v.data.toList ++ [34]))) w' ∧ Below B w w' := by
  obtain ⟨i0, hi, hz0, hz1, hz2⟩ := info_parts info5
  have hlen : v.data.toList.length = v.size := by simp
  have hown : w.ownsRow B 5 1 v0 l.length (Lib.byteCells l) := hR
  go_enter Try.func7, Try.ntmps7
  go_wp2_with (at_builtin; refine wpList_append_own _ rfl (.tmp 7) (.tmp 8) 23 rfl B 5 i0 (.int .u8 0) 1 1 Try.underlying23 hi hz0 hz1 hz2 rfl (by decide) _ _ _ rfl (hown.alloc _) ⟨w.heap.size, 0, none⟩ 1 1 [.int .u8 34] rfl rfl (cell_one_new _ _ _) (by simp [Value.oneCell']) (by unfold maxLen; omega) (by omega) (by simp; omega) ?_; intro v1 w1 hown1 hgrow1 hx; clear hx)
  have hbel1 : Below B w w1 := ((Below.refl B w).alloc hBw _).grown hgrow1 (by simp; omega) (fun j hj => (hown.lt j hj).1)
  have hR1 : Row B v1 (l ++ [34]) w1 := Row.snoc (d := 34) rfl hown1
  clear hown1 hgrow1 hown hR
  go_loopw [0, 5] (fun b i wr => ∃ k : Nat, k ≤ v.size ∧ i = .int .i64 k ∧ Row B b (l ++ (34 :: Quot.qs (v.data.toList.take k))) wr ∧ Below B w wr)
    (fun _ i _ => v.size - (intOf i).toNat)
  case atStart => exact ⟨0, Nat.zero_le _, rfl, hR1, hbel1⟩
  case round =>
    obtain ⟨k, hk, rfl, hR, hbel⟩ := hrel
    clear hR1 hbel1
    have hel := (Quot.qs_length (v.data.toList.take k)).2
    have htl : (v.data.toList.take k).length ≤ k := List.length_take_le _ _
    obtain ⟨m, Hm⟩ : ∃ m, Hid (m = (l ++ (34 :: Quot.qs (v.data.toList.take k))).length) := ⟨_, rfl⟩
    have hm : m ≤ 4194304 := by rw [Hm.out]; simp; omega
    have hBs := Nat.le_trans hBw hbel.size
    have hown := hR
    unfold Row at hown
    rw [← Hm.out] at hown
    by_cases hlt : k < v.size
    · have hk' : k < v.data.toList.length := by omega
      have hvk : v.data.toList[k] = v[k] := rfl
      by_cases hsp : Quot.special v[k] = true
      · have HS : Hid (Quot.qs (v.data.toList.take (k + 1)) = (Quot.qs (v.data.toList.take k) ++ [92]) ++ [v[k]]) := by
          show _ = _
          rw [Quot.qs_take_succ _ k hk', hvk]; simp [Quot.q1, hsp]
        have h3 : ((v[k].toNat : Int) == 34) = true ∨ ((v[k].toNat : Int) == 34) = false ∧ ((v[k].toNat : Int) == 92) = true := by
          have := (Quot.special_iff _).1 hsp
          simp only [beq_iff_eq, beq_eq_false_iff_ne, ne_eq]
          omega
        clear hsp hvk
        rcases h3 with h3 | ⟨h3, h4⟩
        all_goals
          go_wp2_with (first | (at_builtin; refine wpList_append_own _ rfl (.tmp 25) (.tmp 26) 23 rfl B 5 i0 (.int .u8 0) 1 1 Try.underlying23 hi hz0 hz1 hz2 rfl (by decide) _ _ _ rfl (hown.alloc _) ⟨wr.heap.size, 0, none⟩ 1 1 [.int .u8 92] rfl rfl (cell_one_new _ _ _) (by simp [Value.oneCell']) (by unfold maxLen; omega) (by omega) (by simp; omega) ?_; intro v1 w1 hown1 hgrow1 hx; clear hx; have hs1 := hgrow1.size) | (at_builtin; refine wpList_append_own _ rfl (.tmp 28) (.tmp 30) 23 rfl B 5 i0 (.int .u8 0) 1 1 Try.underlying23 hi hz0 hz1 hz2 rfl (by decide) _ _ _ rfl (hown1.alloc _) ⟨w1.heap.size, 0, none⟩ 1 1 [.int .u8 (v[k].toNat : Int)] rfl rfl (cell_one_new _ _ _) (by simp [Value.oneCell']) (by unfold maxLen; omega) (by omega) (by simp at hs1 ⊢; omega) ?_; intro v2 w2 hown2 hgrow2 hx; clear hx))
          go_roundw
          case rel =>
            have hb1 := (hbel.alloc hBs _).grown hgrow1 (by simp; omega) (fun j hj => (hown.lt j hj).1)
            have hb2 := (hb1.alloc (by simp at hs1; omega) _).grown hgrow2 (by simp at hs1 ⊢; omega) (fun j hj => (hown1.lt j hj).1)
            rw [Hm.out] at hown1 hown2
            have r1 := Row.snoc (d := 92) rfl hown1
            have r2 : Row B v2 (((l ++ (34 :: Quot.qs (v.data.toList.take k))) ++ [92]) ++ [v[k]]) w2 := by
              refine Row.snoc (d := v[k]) rfl ?_
              have e1 : Lib.byteCells ((l ++ (34 :: Quot.qs (v.data.toList.take k))) ++ [92]) = Lib.byteCells (l ++ (34 :: Quot.qs (v.data.toList.take k))) ++ [.int .u8 92] := by rw [Lib.byteCells_append]; rfl
              rw [e1, List.length_append]
              exact hown2
            refine ⟨k + 1, by omega, by go_num, ?_, hb2⟩
            rw [HS.out]
            simpa using r2
          case measure => simp [intOf]; omega
      · have HS : Hid (Quot.qs (v.data.toList.take (k + 1)) = Quot.qs (v.data.toList.take k) ++ [v[k]]) := by
          show _ = _
          rw [Quot.qs_take_succ _ k hk', hvk]; simp [Quot.q1, hsp]
        have h3 : ((v[k].toNat : Int) == 34) = false ∧ ((v[k].toNat : Int) == 92) = false := by
          have := mt (Quot.special_iff _).2 hsp
          simp only [beq_eq_false_iff_ne, ne_eq]
          omega
        clear hsp hvk
        obtain ⟨h3, h4⟩ := h3
        go_wp2_with (at_builtin; refine wpList_append_own _ rfl (.tmp 28) (.tmp 30) 23 rfl B 5 i0 (.int .u8 0) 1 1 Try.underlying23 hi hz0 hz1 hz2 rfl (by decide) _ _ _ rfl (hown.alloc _) ⟨wr.heap.size, 0, none⟩ 1 1 [.int .u8 (v[k].toNat : Int)] rfl rfl (cell_one_new _ _ _) (by simp [Value.oneCell']) (by unfold maxLen; omega) (by omega) (by simp; omega) ?_; intro v2 w2 hown2 hgrow2 hx; clear hx)
        go_roundw
        case rel =>
          have hb2 := (hbel.alloc hBs _).grown hgrow2 (by simp; omega) (fun j hj => (hown.lt j hj).1)
          rw [Hm.out] at hown2
          have r2 := Row.snoc (d := v[k]) rfl hown2
          refine ⟨k + 1, by omega, by go_num, ?_, hb2⟩
          rw [HS.out]
          simpa using r2
        case measure => simp [intOf]; omega
    · have hall : v.data.toList.take k = v.data.toList := List.take_of_length_le (by omega)
      go_wp2_with (at_builtin; refine wpList_append_own _ rfl (.tmp 32) (.tmp 33) 23 rfl B 5 i0 (.int .u8 0) 1 1 Try.underlying23 hi hz0 hz1 hz2 rfl (by decide) _ _ _ rfl (hown.alloc _) ⟨wr.heap.size, 0, none⟩ 1 1 [.int .u8 34] rfl rfl (cell_one_new _ _ _) (by simp [Value.oneCell']) (by unfold maxLen; omega) (by omega) (by simp; omega) ?_; intro v2 w2 hown2 hgrow2 hx; clear hx)
      go_ret
      refine ⟨v2, rfl, ?_, (hbel.alloc hBs _).grown hgrow2 (by simp; omega) (fun j hj => (hown.lt j hj).1)⟩
      rw [Hm.out] at hown2
      have := Row.snoc (d := 34) rfl hown2
      rw [hall] at this
      simpa using this
end Go.Proofs.Qxb6001399a
