/-
  THE WALK of sortedDistinct.
-/
import Derived.Test.Qxb6001318aMem
import Derived.Test.Qxb6001318aDistPlain
import Derived.Lib.Strings
namespace Go.Proofs.Qxb6001318a
open Go.RowKit
set_option linter.unusedSimpArgs false
set_option linter.unusedVariables false

theorem info21 : (Try.prog.info? 21).map (fun i => (i.zero, i.size, i.bytes)) = some (some (.int .i32 0), 1, 4) := by kernel_rfl

/-- A cell of a row of texts. -/
def ycell (T : List ByteArray) (j : Nat) : Value := .string (T.getD j ⟨#[]⟩)
/-- A cell of a row of 32-bit numbers. -/
def dcell (D : Nat → Nat) (j : Nat) : Value := .int .i32 (D j : Int)

theorem ycell_snoc {w : World} {g n k : Nat} {T : List ByteArray} {v : ByteArray} (hk : T.length = k) (hr : w.rowIs g 9 n (fun j => if j = k then .string v else ycell T j)) : w.rowIs g 9 n (ycell (T ++ [v])) := by
  subst hk
  refine hr.congr fun j hj => ?_
  unfold ycell
  by_cases e : j = T.length
  · subst e; simp
  · rw [if_neg e]
    by_cases e2 : j < T.length
    · rw [List.getD_eq_getElem?_getD, List.getD_eq_getElem?_getD, List.getElem?_append_left e2]
    · rw [List.getD_eq_getElem?_getD, List.getD_eq_getElem?_getD, List.getElem?_eq_none (by omega), List.getElem?_eq_none (by simp; omega)]

theorem dcell_set {w : World} {g n x : Nat} {D : Nat → Nat} {v : Int} {d : Nat} (hr : w.rowIs g 21 n (dcell D)) (hv : v = (d : Int)) : (w.setCell ⟨g, x, none⟩ (.int .i32 v)).rowIs g 21 n (dcell fun i => if i = x then d else D i) := by
  subst hv
  refine (hr.set x _).congr fun j hj => ?_
  show _ = Value.int .i32 (((if j = x then d else D j : Nat)) : Int)
  by_cases e : j = x
  · rw [if_pos e, if_pos e]
  · rw [if_neg e, if_neg e]; rfl

theorem sum_take (f : Nat → Nat) (X : List Nat) (k : Nat) : ((X.take k).map f).sum ≤ (X.map f).sum := by
  conv => rhs; rw [← List.take_append_drop k X, List.map_append, List.sum_append]
  omega

theorem sum_range (S : Nat → ByteArray) : ∀ N, ((List.range N).map fun i => (S i).size).sum = tot S N
  | 0 => rfl
  | N + 1 => by rw [List.range_succ, List.map_append, List.sum_append, sum_range S N]; simp [tot]

theorem new_one (w : World) (n : Nat) (v : Value) (t : TypeId) : ((w.drewN n).alloc (.cells #[v] t)).cell? ⟨w.heap.size, 0, none⟩ = some v := by
  have h := heap_alloc_new (w.drewN n) (.cells #[v] t)
  have e : (w.drewN n).heap.size = w.heap.size := rfl
  rw [e] at h
  unfold World.cell?
  rw [h]
  rfl

/-- What sortedDistinct leaves. -/
def DistPost (w : World) (S : Nat → ByteArray) (N : Nat) (e : Ending) (w' : World) : Prop :=
  ∃ (gt gd : Nat) (T : List ByteArray) (D : Nat → Nat), e = .returned (.tuple #[.slice (some ⟨gt, 0, none⟩) T.length N, .slice (some ⟨gd, 0, none⟩) N N, .int .i64 ((1 + Pl.cnt [] T : Nat) : Int)]) ∧
    w.heap.size ≤ gt ∧ w.heap.size ≤ gd ∧ gt ≠ gd ∧ w'.rowIs gt 9 N (ycell T) ∧ w'.rowIs gd 21 N (dcell D) ∧ Below w.heap.size w w' ∧ Pl.cnt [] T ≤ tot S N ∧
    T.Pairwise (fun a b => Pl.ltB (Pl.tb a) (Pl.tb b) = true) ∧ (∀ t ∈ T, ∃ i, i < N ∧ t = S i) ∧ (∀ i, i < N → ∃ h : D i < T.length, T[D i] = S i) ∧ T.length ≤ N

set_option maxRecDepth 100000 in
set_option maxHeartbeats 1000000 in
theorem dist_any (a : Option Addr) (N cap : Nat) (S : Nat → ByteArray) (w : World) (hN : N ≤ 65536) (ht : tot S N ≤ 1048576) (hS : OwnStrs 0 w a N S) :
    Calls Try.prog 10 #[.slice a N cap] w (DistPost w S N) := by
  have hmk1 := make_room (P := Try.prog) 22 9 (.string ⟨#[]⟩) 16 Try.underlying22 info9 rfl N (by omega) (by unfold maxLen; omega)
  have hmk2 := run_make_row' (P := Try.prog) 26 21 (.int .i32 0) 4 Try.underlying26 info21 rfl .i64 .i64 N (by omega) (by omega)
  have HSo : Hid _ := sortIdx_any a N cap S w hN ht hS
  have HS : Hid _ := hS
  clear hS
  go_enter Try.func10, Try.ntmps10
  go_wp2_with fail
  refine Calls.mono HSo.out ?_
  rintro e w1 ⟨go, X, rfl, hgo, hro, hb1, hpm, hsr⟩
  have HPm : Hid _ := hpm
  have HSr : Hid _ := hsr
  clear HSo hpm hsr
  have hsz1 := hb1.size
  have hgl := hro.lt
  go_upto_region 4 with fail
  obtain ⟨w2, gt, gd, Hw2⟩ : ∃ (w2 : World) (gt gd : Nat), Hid (w2 = ((w1.alloc (.cells (madeCells #[.string ⟨#[]⟩] N) 9)).alloc (.cells (madeCells #[.int .i32 0] N) 21)) ∧ gt = w1.heap.size ∧ gd = w1.heap.size + 1) := ⟨_, _, _, rfl, rfl, rfl⟩
  rw [← Hw2.out.1, ← Hw2.out.2.2, ← Hw2.out.2.1]
  have hrt : w2.rowIs gt 9 N (ycell []) := by
    rw [Hw2.out.1, Hw2.out.2.1]; exact ((World.rowIs_made w1 _ N 9).alloc _).congr fun j _ => rfl
  have hrd : w2.rowIs gd 21 N (dcell fun _ => 0) := by
    rw [Hw2.out.1, Hw2.out.2.2]; exact row_made_second w1 _ N _ 21
  have hro2 : w2.rowIs go 3 N (lcell X) := by rw [Hw2.out.1]; exact (hro.alloc _).alloc _
  have hgt : w.heap.size ≤ gt := by rw [Hw2.out.2.1]; exact hsz1
  have hgd : w.heap.size ≤ gd := by rw [Hw2.out.2.2]; omega
  have htd : gt ≠ gd := by rw [Hw2.out.2.1, Hw2.out.2.2]; omega
  have hto : go ≠ gt := by rw [Hw2.out.2.1]; omega
  have hdo : go ≠ gd := by rw [Hw2.out.2.2]; omega
  have hbel : Below w.heap.size w w2 := by rw [Hw2.out.1]; exact (hb1.alloc hsz1 _).alloc (by simp; omega) _
  clear Hw2 hmk1 hmk2 hsz1 hgl hb1 hro
  have HXl : Hid (X.length = N) := by show _ = _; rw [HPm.out.length_eq]; simp
  have HXlt : Hid (∀ i, i < N → X.getD i 0 < N) := by
    intro i hi
    have hi' : i < X.length := by rw [HXl.out]; exact hi
    rw [List.getD_eq_getElem?_getD, List.getElem?_eq_getElem hi']
    have := HPm.out.subset (List.getElem_mem hi')
    simpa using this
  have HSum : Hid (∀ k, ((X.take k).map fun i => (S i).size).sum ≤ tot S N) := by
    intro k
    refine Nat.le_trans (sum_take _ X k) ?_
    rw [(HPm.out.map _).sum_nat, sum_range]; exact Nat.le_refl _
  have HNd : Hid X.Nodup := HPm.out.nodup_iff.2 List.nodup_range
  have HTk : Hid (∀ k, k < N → X.take (k + 1) = X.take k ++ [X.getD k 0]) := by
    intro k hk
    have hk' : k < X.length := by rw [HXl.out]; exact hk
    rw [List.take_succ_eq_append_getElem hk', List.getD_eq_getElem?_getD, List.getElem?_eq_getElem hk']; rfl
  have HNot : Hid (∀ k, k < N → X.getD k 0 ∉ X.take k) := by
    intro k hk hm
    have h1 : (X.take (k + 1)).Nodup := HNd.out.sublist (List.take_sublist _ _)
    rw [HTk.out k hk, List.nodup_append] at h1
    exact h1.2.2 _ hm _ (by simp) rfl
  have HLe : Hid (∀ k, k < N → ∀ i ∈ X.take k, Pl.leS S i (X.getD k 0) = true) := by
    intro k hk i hi
    have h1 : (X.take (k + 1)).Pairwise (fun a b => Pl.leS S a b = true) := HSr.out.sublist (List.take_sublist _ _)
    rw [HTk.out k hk, List.pairwise_append] at h1
    exact h1.2.2 i hi _ (by simp)
  go_wp2_with fail
  go_loopg [6, 8, 9] N (fun gk tv sv kv wk => ∃ (k : Nat) (T : List ByteArray) (nT c0 : Nat) (D : Nat → Nat), k ≤ N ∧ Hid (gk = N - k) ∧ kv = .int .i64 (k : Int) ∧ Hid (T.length = nT) ∧ Hid (c0 = Pl.cnt [] T) ∧ tv = .slice (some ⟨gt, 0, none⟩) nT N ∧ sv = .int .i64 (1 + (c0 : Int)) ∧
      wk.rowIs gt 9 N (ycell T) ∧ wk.rowIs gd 21 N (dcell D) ∧ wk.rowIs go 3 N (lcell X) ∧ Below w.heap.size w wk ∧ Hid (Pl.DI S (X.take k) T D))
  case atStart => exact ⟨0, [], 0, 0, fun _ => 0, Nat.zero_le _, rfl, rfl, rfl, rfl, rfl, rfl, hrt, hrd, hro2, hbel, Pl.DI.start S _⟩
  case round =>
    clear hrt hrd hro2 hbel
    obtain ⟨k, T, nT, c0, D, hk, Hgk, rfl, HnT, Hc0, rfl, rfl, hrt, hrd, hro, hbel, HDI⟩ := hrel
    by_cases hlt : k < N
    · have hcx : wr.cell? ⟨go, k, none⟩ = some (.int .i64 ((X.getD k 0 : Nat) : Int)) := hro.cell hlt
      have hx := HXlt.out k hlt
      have HN1 : Hid _ := HNot.out k hlt
      have HL1 : Hid _ := HLe.out k hlt
      have HT1 : Hid _ := HTk.out k hlt
      generalize X.getD k 0 = x at hcx hx HN1 HL1 HT1
      obtain ⟨gs, rfl, _, hrs⟩ := HS.out (by omega)
      have hgs := hrs.lt
      have hsx : wr.cell? ⟨gs, x, none⟩ = some (.string (S x)) := (hbel.cell (p := ⟨gs, x, none⟩) hgs).trans (hrs.cell hx)
      have hzx : (S x).size ≤ 1048576 := Nat.le_trans (size_le_tot S hx) ht
      have hcn : c0 ≤ 1048576 := by rw [Hc0.out]; exact Nat.le_trans (Nat.le_trans HDI.out.sum (HSum.out k)) ht
      have hTl : nT ≤ k := by have := HDI.out.len; rw [List.length_take, HnT.out] at this; omega
      obtain ⟨v4, hcd⟩ : ∃ v, wr.cell? ⟨gd, x, none⟩ = some v := ⟨_, hrd.cell hx⟩
      have hfd := hrd.frozen x
      clear hrs
      by_cases hT0 : T = []
      · have e0 : nT = 0 := by rw [← HnT.out, hT0]; rfl
        subst e0
        have Hnew : Hid (∀ V, T ≠ V ++ [S x]) := by intro V; rw [hT0]; simp
        have HLB : Hid (Pl.lastB [] T = (⟨#[]⟩ : ByteArray).data.toList) := by show _ = _; rw [hT0]; rfl
        have hzl : (⟨#[]⟩ : ByteArray).size ≤ 1048576 := by decide
        clear hT0
        have HPf : Hid _ := prefixLen_any (S x) (⟨#[]⟩ : ByteArray) wr hzx hzl
        have Hlc : Hid (Pl.lcp (S x).data.toList (⟨#[]⟩ : ByteArray).data.toList ≤ (S x).size) := by have := (Pl.lcp_le (S x).data.toList (⟨#[]⟩ : ByteArray).data.toList).1; show _ ≤ _; simpa using this
        have HCn : Hid (Pl.cnt [] (T ++ [S x]) = c0 + ((S x).size - Pl.lcp (S x).data.toList (⟨#[]⟩ : ByteArray).data.toList)) := by
          show _ = _
          rw [Pl.cnt_snoc, ← Hc0.out, HLB.out]
          have : (Pl.tb (S x)).length = (S x).size := by simp [Pl.tb]
          rw [this]; rfl
        generalize Pl.lcp (S x).data.toList (⟨#[]⟩ : ByteArray).data.toList = lc at HPf Hlc HCn
        have hlc := Hlc.out
        go_upto_region 14 with fail
        go_wp2_with fail
        refine Calls.mono HPf.out ?_
        rintro e w5 ⟨rfl, m, rfl⟩
        clear HPf
        go_wp2_with (at_builtin; refine wpList_append_one rfl _ _ 22 rfl 9 _ 16 Try.underlying22 info9 gt 0 N wr.heap.size _ (.string (S x)) rfl rfl ((row_drewN hrt m).alloc _) (by omega) (new_one wr m _ 9) rfl ?_; intro w6 hrt6 ho6; have hrd6 := ho6.row htd.symm ((row_drewN hrd m).alloc (.cells #[.string (S x)] 9)); have hro6 := ho6.row hto ((row_drewN hro m).alloc (.cells #[.string (S x)] 9)); have hbel6 := ((below_drewN hbel m).alloc (show w.heap.size ≤ (wr.drewN m).heap.size from hbel.size) (.cells #[.string (S x)] 9)).trans (ho6.below hgt); obtain ⟨v5, hcd5⟩ : ∃ v, w6.cell? ⟨gd, x, none⟩ = some v := ⟨_, hrd6.cell hx⟩; have hfd5 := hrd6.frozen x; clear hcd hfd ho6 hsx hcx)
        go_roundg (N - (k + 1))
        case measure => rw [Hgk.out]; omega
        case rel =>
          refine ⟨k + 1, T ++ [S x], 0 + 1, c0 + ((S x).size - lc), _, by omega, rfl, by go_num, ?_, HCn.out.symm, rfl, ?_, ycell_snoc HnT.out (hrt6.setOther (by simpa using htd) _), dcell_set hrd6 rfl, hro6.setOther (by simpa using hdo) _, hbel6.setCell (p := ⟨gd, x, none⟩) hgd _, ?_⟩
          · show _ = _
            rw [List.length_append, HnT.out]; rfl
          · go_num
          · rw [HT1.out]
            have h := HDI.out.new HN1.out HL1.out Hnew.out
            rw [HnT.out] at h
            exact h
      · obtain ⟨V, y, HV⟩ : ∃ V y, Hid (T = V ++ [y]) := ⟨T.dropLast, T.getLast hT0, (List.dropLast_concat_getLast hT0).symm⟩
        obtain ⟨n, Hn⟩ : ∃ n, Hid (nT = n + 1) := ⟨V.length, by show _ = _; rw [← HnT.out, HV.out]; simp⟩
        have en := Hn.out
        subst en
        have hcy : wr.cell? ⟨gt, n, none⟩ = some (.string y) := by
          rw [hrt.cell (by omega)]
          have hVl : V.length = n := by have := HnT.out; rw [HV.out] at this; simp at this; exact this
          unfold ycell
          rw [HV.out, ← hVl]; simp
        have HLB : Hid (Pl.lastB [] T = y.data.toList) := by show _ = _; rw [HV.out, Pl.lastB_snoc]; rfl
        obtain ⟨iy, hiy, eiy⟩ := HDI.out.from' y (by rw [HV.out]; simp)
        have hiyN : iy < N := by
          have := HPm.out.subset (List.mem_of_mem_take hiy)
          simpa using this
        have hzl : y.size ≤ 1048576 := by rw [eiy]; exact Nat.le_trans (size_le_tot S hiyN) ht
        clear hiy eiy hiyN hT0
        by_cases hpy : S x = y
        · have HV2 : Hid (T = V ++ [S x]) := by show _ = _; rw [hpy]; exact HV.out
          rw [hpy] at hsx
          go_wp2
          go_roundg (N - (k + 1))
          case measure => rw [Hgk.out]; omega
          case rel =>
            refine ⟨k + 1, T, n + 1, c0, _, by omega, rfl, by go_num, HnT, Hc0, rfl, rfl, hrt.setOther (by simpa using htd) _, dcell_set (d := n) hrd (by go_num), hro.setOther (by simpa using hdo) _, hbel.setCell (p := ⟨gd, x, none⟩) hgd _, ?_⟩
            rw [HT1.out]
            have h := HDI.out.same HN1.out HV2.out
            rw [HnT.out] at h
            exact h
        · have hne : ((S x).toList == y.toList) = false := by
            rw [beq_eq_false_iff_ne]; intro h; rw [Lib.toList_data, Lib.toList_data] at h; exact hpy (Pl.tb_inj h)
          have Hnew : Hid (∀ V, T ≠ V ++ [S x]) := by
            intro V' h
            rw [HV.out] at h
            have := List.append_inj_right' h rfl
            simp at this
            exact hpy this.symm
          clear hpy
          have HPf : Hid _ := prefixLen_any (S x) y wr hzx hzl
          have Hlc : Hid (Pl.lcp (S x).data.toList y.data.toList ≤ (S x).size) := by have := (Pl.lcp_le (S x).data.toList y.data.toList).1; show _ ≤ _; simpa using this
          have HCn : Hid (Pl.cnt [] (T ++ [S x]) = c0 + ((S x).size - Pl.lcp (S x).data.toList y.data.toList)) := by
            show _ = _
            rw [Pl.cnt_snoc, ← Hc0.out, HLB.out]
            have : (Pl.tb (S x)).length = (S x).size := by simp [Pl.tb]
            rw [this]; rfl
          generalize Pl.lcp (S x).data.toList y.data.toList = lc at HPf Hlc HCn
          have hlc := Hlc.out
          go_upto_region 14 with fail
          go_wp2_with fail
          refine Calls.mono HPf.out ?_
          rintro e w5 ⟨rfl, m, rfl⟩
          clear HPf
          go_wp2_with (at_builtin; refine wpList_append_one rfl _ _ 22 rfl 9 _ 16 Try.underlying22 info9 gt (n + 1) N wr.heap.size _ (.string (S x)) rfl rfl ((row_drewN hrt m).alloc _) (by omega) (new_one wr m _ 9) rfl ?_; intro w6 hrt6 ho6; have hrd6 := ho6.row htd.symm ((row_drewN hrd m).alloc (.cells #[.string (S x)] 9)); have hro6 := ho6.row hto ((row_drewN hro m).alloc (.cells #[.string (S x)] 9)); have hbel6 := ((below_drewN hbel m).alloc (show w.heap.size ≤ (wr.drewN m).heap.size from hbel.size) (.cells #[.string (S x)] 9)).trans (ho6.below hgt); obtain ⟨v5, hcd5⟩ : ∃ v, w6.cell? ⟨gd, x, none⟩ = some v := ⟨_, hrd6.cell hx⟩; have hfd5 := hrd6.frozen x; clear hcd hfd ho6 hsx hcx)
          go_roundg (N - (k + 1))
          case measure => rw [Hgk.out]; omega
          case rel =>
            refine ⟨k + 1, T ++ [S x], (n + 1) + 1, c0 + ((S x).size - lc), _, by omega, rfl, by go_num, ?_, HCn.out.symm, rfl, ?_, ycell_snoc HnT.out (hrt6.setOther (by simpa using htd) _), dcell_set hrd6 rfl, hro6.setOther (by simpa using hdo) _, hbel6.setCell (p := ⟨gd, x, none⟩) hgd _, ?_⟩
            · show _ = _
              rw [List.length_append, HnT.out]; rfl
            · go_num
            · rw [HT1.out]
              have h := HDI.out.new HN1.out HL1.out Hnew.out
              rw [HnT.out] at h
              exact h
    · have ek : N = k := by omega
      subst ek
      have HTN : Hid (X.take N = X) := by show _ = _; rw [List.take_of_length_le (by rw [HXl.out]; exact Nat.le_refl _)]
      have hDI := HDI.out
      rw [HTN.out] at hDI
      have HD2 : Hid _ := hDI
      clear hDI
      have HSN := HSum.out N
      go_wp2
      refine bodyPost_ret (v := .tuple #[.slice (some ⟨gt, 0, none⟩) nT N, .slice (some ⟨gd, 0, none⟩) N N, .int .i64 ((1 + c0 : Nat) : Int)]) (by simp [results, Try.results10, go_sem]) rfl ?_
      refine ⟨gt, gd, T, D, by rw [HnT.out, ← Hc0.out], hgt, hgd, htd, hrt, hrd, hbel, ?_, HD2.out.sorted, ?_, ?_, ?_⟩
      · rw [HTN.out] at HSN
        exact Nat.le_trans HD2.out.sum HSN
      · intro t ht
        obtain ⟨i, hi, e⟩ := HD2.out.from' t ht
        have := HPm.out.subset hi
        exact ⟨i, by simpa using this, e⟩
      · intro i hi
        exact HD2.out.at' i (HPm.out.symm.subset (by simpa using hi))
      · have := HD2.out.len
        rw [HXl.out] at this; exact this
end Go.Proofs.Qxb6001318a
