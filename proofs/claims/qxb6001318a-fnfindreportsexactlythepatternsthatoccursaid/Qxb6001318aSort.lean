/-
  THE WALK of sortIdx.
-/
import Derived.Test.Qxb6001318aStrs
import Derived.Test.Qxb6001318aSortPlain
import Derived.Deep.DeepCutAuto
namespace Go.Proofs.Qxb6001318a
open Go.RowKit
set_option linter.unusedSimpArgs false
set_option linter.unusedVariables false

theorem info3 : (Try.prog.info? 3).map (fun i => (i.zero, i.size, i.bytes)) = some (some (.int .i64 0), 1, 8) := by kernel_rfl

/-- A cell of a row of integers that a list holds. -/
def lcell (X : List Nat) (k : Nat) : Value := .int .i64 ((X.getD k 0 : Nat) : Int)

/-- What sortIdx leaves. -/
def SortPost (w : World) (S : Nat → ByteArray) (N : Nat) (e : Ending) (w' : World) : Prop :=
  ∃ g X, e = .returned (.slice (some ⟨g, 0, none⟩) N N) ∧ w.heap.size ≤ g ∧ w'.rowIs g 3 N (lcell X) ∧ Below w.heap.size w w' ∧ X.Perm (List.range N) ∧ X.Pairwise (fun a b => Pl.leS S a b = true)

/-- A row of which the first k are those of a list. -/
def pcell (Y : List Nat) (k : Nat) (B : Nat → Nat) (t : Nat) : Value := .int .i64 ((if t < k then Y.getD t 0 else B t : Nat) : Int)

theorem pcell_step {w : World} {b n k : Nat} {Y : List Nat} {B : Nat → Nat} {v : Int} {x : Nat} (hr : w.rowIs b 3 n (pcell Y k B)) (hY : Y.length = k) (hv : v = (x : Int)) : (w.setCell ⟨b, k, none⟩ (.int .i64 v)).rowIs b 3 n (pcell (Y ++ [x]) (k + 1) B) := by
  subst hv
  refine (hr.set k _).congr fun j hj => ?_
  unfold pcell
  by_cases e : j = k
  · subst e
    rw [if_pos rfl, if_pos (by omega)]
    simp [← hY]
  · rw [if_neg e]
    by_cases e2 : j < k
    · rw [if_pos e2, if_pos (by omega), List.getD_eq_getElem?_getD, List.getD_eq_getElem?_getD, List.getElem?_append_left (by omega)]
    · rw [if_neg e2, if_neg (by omega)]

theorem row_drewN {w : World} {b t n : Nat} {f : Nat → Value} (h : w.rowIs b t n f) (k : Nat) : (w.drewN k).rowIs b t n f := h

theorem pcell_all {w : World} {b n : Nat} {Y : List Nat} {B : Nat → Nat} (hr : w.rowIs b 3 n (pcell Y n B)) : w.rowIs b 3 n (lcell Y) := hr.congr fun j hj => by unfold pcell lcell; rw [if_pos hj]
theorem pcell_none {w : World} {b n : Nat} {f : Nat → Nat} (hr : w.rowIs b 3 n (fun t => .int .i64 ((f t : Nat) : Int))) (Y : List Nat) : w.rowIs b 3 n (pcell Y 0 f) := hr.congr fun j hj => by unfold pcell; rw [if_neg (Nat.not_lt_zero _)]

theorem row_made_second (w : World) (o : Obj) (n : Nat) (z : Value) (t : TypeId) : ((w.alloc o).alloc (.cells (madeCells #[z] n) t)).rowIs (w.heap.size + 1) t n (fun _ => z) := by
  have h := World.rowIs_made (w.alloc o) z n t
  have e : (w.alloc o).heap.size = w.heap.size + 1 := by simp
  rw [e] at h; exact h

set_option maxRecDepth 100000 in
set_option maxHeartbeats 1000000 in
theorem sortIdx_any (a : Option Addr) (N cap : Nat) (S : Nat → ByteArray) (w : World) (hN : N ≤ 65536) (ht : tot S N ≤ 1048576) (hS : OwnStrs 0 w a N S) :
    Calls Try.prog 20 #[.slice a N cap] w (SortPost w S N) := by
  have hmk := run_make_row' (P := Try.prog) 34 3 (.int .i64 0) 8 Try.underlying34 info3 rfl .i64 .i64 N (by omega) (by omega)
  have HS : Hid _ := hS
  clear hS
  go_enter Try.func20, Try.ntmps20
  go_wp2_with fail
  go_loopg [5] N (fun gi iv wi => ∃ i : Nat, i ≤ N ∧ Hid (gi = N - i) ∧ iv = .int .i64 (i : Int) ∧ wi.rowIs w.heap.size 3 N (pcell (List.range i) i (fun _ => 0)) ∧ Below w.heap.size w wi)
  case atStart => exact ⟨0, Nat.zero_le _, rfl, rfl, pcell_none (World.rowIs_made _ _ _ _) _, (Below.refl _ _).alloc (Nat.le_refl _) _⟩
  case round =>
    obtain ⟨i, hi, Hgi, rfl, hra, hbel⟩ := hrel
    by_cases hlt : i < N
    · obtain ⟨v4, hc4⟩ : ∃ v, wr.cell? ⟨w.heap.size, i, none⟩ = some v := ⟨_, hra.cell hlt⟩
      have hf := hra.frozen i
      clear hmk
      go_wp2
      go_roundg (N - (i + 1))
      case measure => rw [Hgi.out]; omega
      case rel => exact ⟨i + 1, by omega, rfl, by go_num, by rw [List.range_succ]; exact pcell_step hra (by simp) rfl, hbel.setCell (p := ⟨w.heap.size, i, none⟩) (Nat.le_refl _) _⟩
    · have ei : i = N := by omega
      subst i
      have hsz := hbel.size
      have hga0 := hra.lt
      go_upto_region 8 with fail
      obtain ⟨w4, gb, Hw4⟩ : ∃ (w4 : World) (gb : Nat), Hid (w4 = wr.alloc (.cells (madeCells #[.int .i64 0] N) 3) ∧ gb = wr.heap.size) := ⟨_, _, rfl, rfl⟩
      rw [← Hw4.out.1, ← Hw4.out.2]
      have hra4 : w4.rowIs w.heap.size 3 N (lcell (List.range N)) := by rw [Hw4.out.1]; exact (pcell_all hra).alloc _
      have hrb4 : w4.rowIs gb 3 N (pcell [] 0 (fun _ => 0)) := by
        rw [Hw4.out.1, Hw4.out.2]; exact pcell_none (World.rowIs_made wr _ N 3) _
      have hgb : w.heap.size ≤ gb := by rw [Hw4.out.2]; exact hsz
      have hab : w.heap.size ≠ gb := by rw [Hw4.out.2]; omega
      have hbel4 : Below w.heap.size w w4 := by rw [Hw4.out.1]; exact hbel.alloc hsz _
      clear Hw4 hmk hsz hbel hra hga0 hlt hi Hgi
      go_wp2_with fail
      go_loopg [4, 6, 7] (N - 1) (fun gv av bv vv wv => ∃ (ga gb v : Nat) (X : List Nat) (B : Nat → Nat), 1 ≤ v ∧ v ≤ 131072 ∧ Hid (gv = N - v) ∧ vv = .int .i64 (v : Int) ∧ av = .slice (some ⟨ga, 0, none⟩) N N ∧ bv = .slice (some ⟨gb, 0, none⟩) N N ∧ ga ≠ gb ∧ w.heap.size ≤ ga ∧ w.heap.size ≤ gb ∧
          wv.rowIs ga 3 N (lcell X) ∧ wv.rowIs gb 3 N (pcell [] 0 B) ∧ Below w.heap.size w wv ∧ Hid (X.Perm (List.range N)) ∧ Hid (Pl.Blk (Pl.leS S) v X))
      case atStart => exact ⟨w.heap.size, gb, 1, _, _, by omega, by omega, rfl, rfl, rfl, rfl, hab, Nat.le_refl _, hgb, hra4, hrb4, hbel4, List.Perm.refl _, Pl.blk_one _ _⟩
      case round =>
        clear hra4 hrb4 hbel4 hgb hab
        obtain ⟨ga, gb, v, X, B, hv1, hv2, Hgv, rfl, rfl, rfl, hab, hga, hgb, hra, hrb, hbel, HPm, HBk⟩ := hrel
        have HXl : Hid (X.length = N) := by show _ = _; rw [HPm.out.length_eq]; simp
        have HXlt : Hid (∀ i, i < N → X.getD i 0 < N) := by
          intro i hi
          have hi' : i < X.length := by rw [HXl.out]; exact hi
          rw [List.getD_eq_getElem?_getD, List.getElem?_eq_getElem hi']
          have := HPm.out.subset (List.getElem_mem hi')
          simpa using this
        by_cases hlt : v < N
        · go_wp2_with fail
          go_loopg [8] N (fun gl lv wl => ∃ (q lo : Nat) (Y : List Nat) (B : Nat → Nat), Hid (lo = 2 * v * q) ∧ lo ≤ 200000 ∧ Hid (gl = N - lo) ∧ lv = .int .i64 (lo : Int) ∧ Hid (Y.length = min lo N) ∧ Hid (Pl.Pass S v X (min lo N) Y) ∧
              wl.rowIs ga 3 N (lcell X) ∧ wl.rowIs gb 3 N (pcell Y (min lo N) B) ∧ Below w.heap.size w wl)
          case atStart => exact ⟨0, 0, [], B, rfl, by omega, rfl, rfl, (by show _ = _; simp), (by rw [Nat.zero_min]; exact Pl.pass_start S v X), hra, by rw [Nat.zero_min]; exact hrb, hbel⟩
          case round =>
            clear hra hrb hbel
            obtain ⟨q, lo, Y, B, Hlo, hlo, Hgl, rfl, HYl, HPs, hra, hrb, hbel⟩ := hrel
            by_cases hl : lo < N
            · have hmin : min lo N = lo := by omega
              rw [hmin] at HYl HPs hrb
              clear hmin
              obtain ⟨mid, Hmid⟩ : ∃ m, Hid (m = min (lo + v) N) := ⟨_, rfl⟩
              obtain ⟨hi, Hhi⟩ : ∃ m, Hid (m = min (lo + 2 * v) N) := ⟨_, rfl⟩
              have hm1 : mid ≤ N := by rw [Hmid.out]; omega
              have hm2 : hi ≤ N := by rw [Hhi.out]; omega
              have hm3 : mid ≤ hi := by rw [Hmid.out, Hhi.out]; omega
              have hm4 : lo ≤ mid := by rw [Hmid.out]; omega
              have hm5 : mid - lo ≤ 131072 := by rw [Hmid.out]; omega
              go_upto_region 15 with fail
              rw [show (if (N : Int) < (lo : Int) + (v : Int) then (N : Int) else (lo : Int) + (v : Int)) = (mid : Int) by rw [Hmid.out]; split <;> omega]
              go_upto_region 16 with fail
              rw [show (if (N : Int) < (lo : Int) + 2 * (v : Int) then (N : Int) else (lo : Int) + 2 * (v : Int)) = (hi : Int) by rw [Hhi.out]; split <;> omega]
              go_wp2_with fail
              go_loopg [11, 12, 13] (hi - lo) (fun gk iv jv kv wk => ∃ (i j k : Nat) (Z : List Nat), lo ≤ i ∧ i ≤ mid ∧ mid ≤ j ∧ j ≤ hi ∧ k + mid = i + j ∧ Hid (gk = hi - k) ∧ iv = .int .i64 (i : Int) ∧ jv = .int .i64 (j : Int) ∧ kv = .int .i64 (k : Int) ∧
                  Hid ((Y ++ Z).length = k) ∧ Hid (Z ++ (Pl.seg X i mid).merge (Pl.seg X j hi) (Pl.leS S) = (Pl.seg X lo mid).merge (Pl.seg X mid hi) (Pl.leS S)) ∧
                  wk.rowIs ga 3 N (lcell X) ∧ wk.rowIs gb 3 N (pcell (Y ++ Z) k B) ∧ Below w.heap.size w wk)
              case atStart => exact ⟨lo, mid, lo, [], Nat.le_refl _, hm4, Nat.le_refl _, hm3, by omega, rfl, rfl, rfl, rfl, (by rw [List.append_nil]; exact HYl), (by show _ = _; simp), hra, by rw [List.append_nil]; exact hrb, hbel⟩
              case round =>
                clear hra hrb hbel
                obtain ⟨i, j, k, Z, hi1, hi2, hj1, hj2, hk, Hgk, rfl, rfl, rfl, HZl, HM, hra, hrb, hbel⟩ := hrel
                by_cases hkh : k < hi
                · have hkN : k < N := by omega
                  obtain ⟨v4, hc4⟩ : ∃ v, wr.cell? ⟨gb, k, none⟩ = some v := ⟨_, hrb.cell hkN⟩
                  have hf4 := hrb.frozen k
                  have hXl := HXl.out
                  by_cases hjh : hi ≤ j
                  · have hg : (hi : Int) ≤ (j : Int) := by omega
                    have him : i < mid := by omega
                    have hci : wr.cell? ⟨ga, i, none⟩ = some (.int .i64 ((X.getD i 0 : Nat) : Int)) := hra.cell (by omega)
                    have HM2 : Hid _ := Pl.merge_left_end (Pl.leS S) X i mid j hi him (by omega) hjh
                    generalize X.getD i 0 = xi at hci HM2
                    clear hXl
                    go_wp2_with fail
                    go_quiet (fail)
                    rename Nat => n1
                    go_wp2
                    go_roundg (hi - (k + 1))
                    case measure => rw [Hgk.out]; omega
                    case rel =>
                      refine ⟨i + 1, j, k + 1, Z ++ [xi], by omega, by omega, hj1, hj2, by omega, rfl, by go_num, rfl, by go_num, ?_, ?_, (row_drewN hra n1).setOther (by simpa using hab) _, ?_, (below_drewN hbel n1).setCell (p := ⟨gb, k, none⟩) hgb _⟩
                      · show _ = _
                        have := HZl.out
                        simp at this ⊢; omega
                      · show _ = _
                        rw [← HM.out, HM2.out]; simp
                      · rw [← List.append_assoc]; exact pcell_step (row_drewN hrb n1) HZl.out rfl
                  · have hg1 : decide ((hi : Int) ≤ (j : Int)) = false := by rw [decide_eq_false_iff_not]; omega
                    have hcj : wr.cell? ⟨ga, j, none⟩ = some (.int .i64 ((X.getD j 0 : Nat) : Int)) := hra.cell (by omega)
                    have hxj := HXlt.out j (by omega)
                    by_cases him : i < mid
                    · have hg2 : (i : Int) < (mid : Int) := by omega
                      have hci : wr.cell? ⟨ga, i, none⟩ = some (.int .i64 ((X.getD i 0 : Nat) : Int)) := hra.cell (by omega)
                      have hxi := HXlt.out i (by omega)
                      obtain ⟨gs, rfl, _, hrs⟩ := HS.out (by omega)
                      have hgs := hrs.lt
                      have hML : Hid (Pl.leS S (X.getD i 0) (X.getD j 0) = true → _) := Pl.merge_left (Pl.leS S) X i mid j hi him (by omega) (by omega) (by omega)
                      have hMR : Hid (Pl.leS S (X.getD i 0) (X.getD j 0) = false → _) := Pl.merge_right (Pl.leS S) X i mid j hi him (by omega) (by omega) (by omega)
                      generalize X.getD i 0 = xi at hci hxi hML hMR
                      generalize X.getD j 0 = xj at hcj hxj hML hMR
                      have hsi : wr.cell? ⟨gs, xi, none⟩ = some (.string (S xi)) := (hbel.cell (p := ⟨gs, xi, none⟩) hgs).trans (hrs.cell hxi)
                      have hsj : wr.cell? ⟨gs, xj, none⟩ = some (.string (S xj)) := (hbel.cell (p := ⟨gs, xj, none⟩) hgs).trans (hrs.cell hxj)
                      have hzi : (S xi).size ≤ 1048576 := Nat.le_trans (size_le_tot S hxi) ht
                      have hzj : (S xj).size ≤ 1048576 := Nat.le_trans (size_le_tot S hxj) ht
                      clear hXl hrs
                      go_wp2_with fail
                      go_quiet ((go_at_call 27; exact Calls.quiet_of (lessBytes_any _ _ _ hzj hzi)))
                      rename Nat => n1
                      generalize hbl : Pl.ltB (S xj).data.toList (S xi).data.toList = bl
                      have HBL : Hid _ := hbl
                      clear hbl
                      cases bl
                      · have HM2 := hML.out (by unfold Pl.leS; rw [HBL.out]; rfl)
                        have HM3 : Hid _ := HM2
                        clear HM2
                        go_wp2
                        go_roundg (hi - (k + 1))
                        case measure => rw [Hgk.out]; omega
                        case rel =>
                          refine ⟨i + 1, j, k + 1, Z ++ [xi], by omega, by omega, by omega, by omega, by omega, rfl, by go_num, rfl, by go_num, ?_, ?_, (row_drewN hra n1).setOther (by simpa using hab) _, ?_, (below_drewN hbel n1).setCell (p := ⟨gb, k, none⟩) hgb _⟩
                          · show _ = _
                            have := HZl.out
                            simp at this ⊢; omega
                          · show _ = _
                            rw [← HM.out, HM3.out]; simp
                          · rw [← List.append_assoc]; exact pcell_step (row_drewN hrb n1) HZl.out rfl
                      · have HM2 := hMR.out (by unfold Pl.leS; rw [HBL.out]; rfl)
                        have HM3 : Hid _ := HM2
                        clear HM2
                        go_wp2
                        go_roundg (hi - (k + 1))
                        case measure => rw [Hgk.out]; omega
                        case rel =>
                          refine ⟨i, j + 1, k + 1, Z ++ [xj], by omega, by omega, by omega, by omega, by omega, rfl, rfl, by go_num, by go_num, ?_, ?_, (row_drewN hra n1).setOther (by simpa using hab) _, ?_, (below_drewN hbel n1).setCell (p := ⟨gb, k, none⟩) hgb _⟩
                          · show _ = _
                            have := HZl.out
                            simp at this ⊢; omega
                          · show _ = _
                            rw [← HM.out, HM3.out]; simp
                          · rw [← List.append_assoc]; exact pcell_step (row_drewN hrb n1) HZl.out rfl
                    · have hg2 : decide ((i : Int) < (mid : Int)) = false := by rw [decide_eq_false_iff_not]; omega
                      have HM2 : Hid _ := Pl.merge_right_end (Pl.leS S) X i mid j hi (by omega) (by omega) (by omega)
                      generalize X.getD j 0 = xj at hcj hxj HM2
                      clear hXl
                      go_wp2_with fail
                      go_quiet (fail)
                      rename Nat => n1
                      go_wp2
                      go_roundg (hi - (k + 1))
                      case measure => rw [Hgk.out]; omega
                      case rel =>
                        refine ⟨i, j + 1, k + 1, Z ++ [xj], by omega, by omega, by omega, by omega, by omega, rfl, rfl, by go_num, by go_num, ?_, ?_, (row_drewN hra n1).setOther (by simpa using hab) _, ?_, (below_drewN hbel n1).setCell (p := ⟨gb, k, none⟩) hgb _⟩
                        · show _ = _
                          have := HZl.out
                          simp at this ⊢; omega
                        · show _ = _
                          rw [← HM.out, HM2.out]; simp
                        · rw [← List.append_assoc]; exact pcell_step (row_drewN hrb n1) HZl.out rfl
                · have ei : mid = i := by omega
                  have ej : hi = j := by omega
                  have ek : hi = k := by omega
                  subst ei
                  subst ej
                  subst ek
                  have HZ : Hid (Z = (Pl.seg X lo mid).merge (Pl.seg X mid hi) (Pl.leS S)) := by
                    show _ = _
                    have := HM.out
                    rw [Pl.seg_nil X mid mid (Nat.le_refl _), Pl.seg_nil X hi hi (Nat.le_refl _)] at this
                    simpa using this
                  have HP2 : Hid (Pl.Pass S v X hi (Y ++ Z)) := by
                    have e := Hlo.out
                    have h1 := HPs.out
                    have h2 := HZ.out
                    have h3 := Hmid.out
                    have h4 := Hhi.out
                    have h5 := HXl.out
                    rw [← h5] at h3 h4
                    rw [e] at h1 h2 h3 h4
                    exact Pl.pass_step h1 HBk.out (by omega) hv1 h3 h4 h2
                  go_wp2
                  go_roundg (N - (lo + 2 * v))
                  case measure => rw [Hgl.out]; omega
                  case rel =>
                    have e : min (lo + 2 * v) N = hi := Hhi.out.symm
                    refine ⟨q + 1, lo + 2 * v, Y ++ Z, B, ?_, by omega, rfl, by go_num, ?_, ?_, hra, ?_, hbel⟩
                    · show _ = _
                      rw [Hlo.out, Nat.mul_add, Nat.mul_one]
                    · rw [e]; exact HZl
                    · rw [e]; exact HP2
                    · rw [e]; exact hrb
            · have e : min lo N = N := by omega
              rw [e] at HYl HPs hrb
              obtain ⟨hp2, hk2⟩ := Pl.pass_end HPs.out (by rw [HXl.out]; exact Nat.le_refl _)
              have HP2 : Hid _ := hp2
              have HK2 : Hid _ := hk2
              clear hp2 hk2 e
              go_wp2
              go_roundg (N - 2 * v)
              case measure => rw [Hgv.out]; omega
              case rel => exact ⟨gb, ga, 2 * v, Y, fun t => X.getD t 0, by omega, by omega, rfl, by go_num, rfl, rfl, hab.symm, hgb, hga, pcell_all hrb, pcell_none hra _, hbel, HP2.out.trans HPm.out, HK2⟩
        · go_wp2
          go_ret
          exact ⟨ga, X, rfl, hga, hra, hbel, HPm.out, Pl.blk_all HBk.out (by rw [HXl.out]; omega)⟩
end Go.Proofs.Qxb6001318a
