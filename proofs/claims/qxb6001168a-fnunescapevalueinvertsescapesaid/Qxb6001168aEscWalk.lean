/-
  THE WALKS of zzBytes_FnUnescapeValueInvertsEscape and zzEscape.
-/
import Derived.Test.Qxb6001168aRows
import Derived.Test.Qxb6001168aEscPlain
import Derived.WalkKit
import Derived.WalkSpells
import Derived.WalkLawsBesides
import Derived.Laws.IdiomStrings
import Derived.Lib.UnsafeStr
namespace Go.Proofs.Qxb6001168a
open Go.RowKit

theorem info5 : (Try.prog.info? 5).map (fun i => (i.zero, i.size, i.bytes)) = some (some (.int .u8 0), 1, 1) := by kernel_rfl

/-- Of a text of at most 2^16 bytes zzBytes says true. -/
theorem zzBytes_yes (v : ByteArray) (w : World) (h : v.size ≤ 1048576) :
    Calls Try.prog 6 #[.string v] w fun e w' => e = .returned (.bool true) ∧ w' = w := by
  go_enter Try.func6, Try.ntmps6
  go_wp2
  go_ret
  exact ⟨rfl, rfl⟩

theorem zzBytes_no (v : ByteArray) (w : World) (h : 1048576 < v.size) :
    Calls Try.prog 6 #[.string v] w fun e w' => e = .returned (.bool false) ∧ w' = w := by
  go_enter Try.func6, Try.ntmps6
  go_wp2
  go_ret
  exact ⟨rfl, rfl⟩

/-- 'string(b)' of an owned row of bytes. -/
theorem string_of_own {w : World} {B : Nat} {v : Value} {l : List UInt8} (h : w.ownsRow B 5 1 v l.length (Lib.byteCells l)) :
    (convert 27 9 v).run Try.prog w = .ok (.string ⟨l.toArray⟩) w := by
  rcases h.2 with ⟨rfl, h0⟩ | ⟨g, cap, cur, rfl, hb, hg, hn, hc, hs, ht⟩
  · have : l = [] := List.eq_nil_of_length_eq_zero h0
    subst this
    rw [run_convert_bytes_string w 27 9 5 none 0 0 Try.underlying27 Try.underlying5 Try.underlying9]
    rfl
  · refine run_convert_bytes_back (P := Try.prog) w 27 9 5 ⟨g, 0, none⟩ cap l Try.underlying27 Try.underlying5 Try.underlying9 fun j hj => ?_
    exact h.cells (g := g) rfl j _ (by simp [Lib.byteCells, hj])

set_option maxHeartbeats 400000 in
theorem zzEscape_any (v : ByteArray) (w : World) (hv : v.size ≤ 65536) :
    Calls Try.prog 8 #[.string v] w fun e w' => e = .returned (.string ⟨(Esc.esc v.data.toList).toArray⟩) ∧ Below w.heap.size w w' := by
  obtain ⟨i0, hi, hz0, hz1, hz2⟩ := info_parts info5
  have hlen : v.data.toList.length = v.size := by simp
  go_enter Try.func8, Try.ntmps8
  go_wp2
  go_loopw [3, 4] (fun b i wr => ∃ k : Nat, k ≤ v.size ∧ i = .int .i64 k ∧ wr.ownsRow w.heap.size 5 1 b (Esc.esc (v.data.toList.take k)).length (Lib.byteCells (Esc.esc (v.data.toList.take k))) ∧ Below w.heap.size w wr)
    (fun _ i _ => v.size - (intOf i).toNat)
  case atStart => exact ⟨0, Nat.zero_le _, rfl, World.ownsRow_nil _ _ _ _, Below.refl _ _⟩
  case round =>
    obtain ⟨k, hk, rfl, hown, hbel⟩ := hrel
    have hel := (Esc.esc_length (v.data.toList.take k)).2
    have htl : (v.data.toList.take k).length ≤ k := List.length_take_le _ _
    by_cases hlt : k < v.size
    · have hk' : k < v.data.toList.length := by omega
      have hvk : v.data.toList[k] = v[k] := rfl
      have hBs := hbel.size
      by_cases hsp : Esc.special v[k] = true
      · have HS : Hid (Lib.byteCells (Esc.esc (v.data.toList.take (k + 1))) = (Lib.byteCells (Esc.esc (v.data.toList.take k)) ++ [.int .u8 92]) ++ [.int .u8 (v[k].toNat : Int)]) := by
          show _ = _
          rw [Esc.esc_take_succ _ k hk', hvk]; simp [Esc.esc1, hsp, Lib.byteCells]
        have HL : Hid ((Esc.esc (v.data.toList.take (k + 1))).length = (Esc.esc (v.data.toList.take k)).length + 1 + 1) := by
          show _ = _
          rw [Esc.esc_take_succ _ k hk', hvk]; simp [Esc.esc1, hsp]
        have h3 : ((v[k].toNat : Int) == 92) = true ∨ ((v[k].toNat : Int) == 92) = false ∧ ((v[k].toNat : Int) == 44) = true ∨ ((v[k].toNat : Int) == 92) = false ∧ ((v[k].toNat : Int) == 44) = false ∧ ((v[k].toNat : Int) == 61) = true := by
          have := (Esc.special_iff _).1 hsp
          simp only [beq_iff_eq, beq_eq_false_iff_ne, ne_eq]
          omega
        clear hsp hvk
        rcases h3 with h3 | ⟨h3, h4⟩ | ⟨h3, h4, h5⟩
        all_goals
          go_wp2_with (first | (at_builtin; refine wpList_append_own _ rfl (.tmp 25) (.tmp 26) 27 rfl w.heap.size 5 i0 (.int .u8 0) 1 1 Try.underlying27 hi hz0 hz1 hz2 rfl (by decide) _ _ _ rfl (hown.alloc _) ⟨wr.heap.size, 0, none⟩ 1 1 [.int .u8 92] rfl rfl (cell_one_new _ _ _) (by simp [Value.oneCell']) (by unfold maxLen; omega) (by omega) (by simp; omega) ?_; intro v1 w1 hown1 hgrow1 _; have hs1 := hgrow1.size) | (at_builtin; refine wpList_append_own _ rfl (.tmp 28) (.tmp 30) 27 rfl w.heap.size 5 i0 (.int .u8 0) 1 1 Try.underlying27 hi hz0 hz1 hz2 rfl (by decide) _ _ _ rfl (hown1.alloc _) ⟨w1.heap.size, 0, none⟩ 1 1 [.int .u8 (v[k].toNat : Int)] rfl rfl (cell_one_new _ _ _) (by simp [Value.oneCell']) (by unfold maxLen; omega) (by omega) (by simp at hs1 ⊢; omega) ?_; intro v2 w2 hown2 hgrow2 _))
          go_roundw
          case rel =>
            refine ⟨k + 1, by omega, by go_num, ?_, ?_⟩
            · rw [HS.out, HL.out]; exact hown2
            · exact ((((hbel.alloc hBs _).grown hgrow1 (by simp; omega) (fun j hj => (hown.lt j hj).1)).alloc (by simp at hs1; omega) _).grown hgrow2 (by simp at hs1 ⊢; omega) (fun j hj => (hown1.lt j hj).1))
          case measure => simp [intOf]; omega
      · have HS : Hid (Lib.byteCells (Esc.esc (v.data.toList.take (k + 1))) = Lib.byteCells (Esc.esc (v.data.toList.take k)) ++ [.int .u8 (v[k].toNat : Int)]) := by
          show _ = _
          rw [Esc.esc_take_succ _ k hk', hvk]; simp [Esc.esc1, hsp, Lib.byteCells]
        have HL : Hid ((Esc.esc (v.data.toList.take (k + 1))).length = (Esc.esc (v.data.toList.take k)).length + 1) := by
          show _ = _
          rw [Esc.esc_take_succ _ k hk', hvk]; simp [Esc.esc1, hsp]
        have h3 : ((v[k].toNat : Int) == 92) = false ∧ ((v[k].toNat : Int) == 44) = false ∧ ((v[k].toNat : Int) == 61) = false := by
          have := mt (Esc.special_iff _).2 hsp
          simp only [beq_eq_false_iff_ne, ne_eq]
          omega
        clear hsp hvk
        obtain ⟨h3, h4, h5⟩ := h3
        go_wp2_with (at_builtin; refine wpList_append_own _ rfl (.tmp 28) (.tmp 30) 27 rfl w.heap.size 5 i0 (.int .u8 0) 1 1 Try.underlying27 hi hz0 hz1 hz2 rfl (by decide) _ _ _ rfl (hown.alloc _) ⟨wr.heap.size, 0, none⟩ 1 1 [.int .u8 (v[k].toNat : Int)] rfl rfl (cell_one_new _ _ _) (by simp [Value.oneCell']) (by unfold maxLen; omega) (by omega) (by simp; omega) ?_; intro v2 w2 hown2 hgrow2 _)
        go_roundw
        case rel =>
          refine ⟨k + 1, by omega, by go_num, ?_, ?_⟩
          · rw [HS.out, HL.out]; exact hown2
          · exact (hbel.alloc hBs _).grown hgrow2 (by simp; omega) (fun j hj => (hown.lt j hj).1)
        case measure => simp [intOf]; omega
    · have hall : v.data.toList.take k = v.data.toList := List.take_of_length_le (by omega)
      rw [hall] at hown
      have hst := string_of_own hown
      go_wp2
      go_ret
      exact ⟨rfl, hbel⟩
end Go.Proofs.Qxb6001168a
