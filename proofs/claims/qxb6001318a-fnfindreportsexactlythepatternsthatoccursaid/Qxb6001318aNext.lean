/-
  THE WALK of next.
-/
import Derived.Test.Qxb6001318aBuild
import Derived.Lib.BytesEntry
namespace Go.Proofs.Qxb6001318a
open Go.RowKit
set_option linter.unusedSimpArgs false
set_option linter.unusedVariables false

set_option maxRecDepth 100000 in
set_option maxHeartbeats 1000000 in
theorem indexByte_any (b o n c : Nat) (xs : List Int) (cv : Int) (w : World) (hx : xs.length = n) (hc : ∀ i, i < n → w.cell? ⟨b, o + i, none⟩ = some (.int .u8 (xs.getD i 0))) :
    Calls Try.prog 28 #[.slice (some ⟨b, o, none⟩) n c, .int .u8 cv] w fun e w' => e = .returned (.int .i64 (Lib.indexByte (Lib.bytesOf xs) cv.toNat.toUInt8)) ∧ w' = w := by
  go_enter Try.func28, Try.ntmps28
  go_wp2
  rw [run_callFunc_extern Try.func29 (by kernel_rfl) (by kernel_rfl) (by kernel_rfl) (e := Extern.BytealgIndexByte.indexByte) (by kernel_rfl), Lib.run_indexByteSlice w b o n c xs hx hc cv]
  simp only [Result.andThen]
  rw [Oper.upon_value]
  go_wp2
  go_ret
  exact ⟨rfl, rfl⟩

theorem indexByte_spec (c : UInt8) : ∀ l : List UInt8, (Lib.indexByte l c = -1 ∧ ∀ j (h : j < l.length), l[j] ≠ c) ∨ ∃ (j : Nat) (h : j < l.length), Lib.indexByte l c = (j : Int) ∧ l[j] = c
  | [] => .inl ⟨rfl, fun j h => by simp at h⟩
  | b :: l => by
    unfold Lib.indexByte
    by_cases e : b = c
    · subst e
      exact .inr ⟨0, by simp, by simp, rfl⟩
    · have e' : (b == c) = false := by simpa using e
      rw [e']
      rcases indexByte_spec c l with ⟨h1, h2⟩ | ⟨j, h, h1, h2⟩
      · left
        rw [h1]
        refine ⟨rfl, fun j hj => ?_⟩
        cases j with
        | zero => exact e
        | succ j => simp only [List.getElem_cons_succ]; exact h2 j (by simpa using hj)
      · right
        refine ⟨j + 1, by simpa using h, ?_, by simpa using h2⟩
        have h3 : (Lib.indexByte l c == -1) = false := by rw [h1, beq_eq_false_iff_ne]; omega
        rw [h3, h1]
        simp

/-- The labels of a state's children, searched. -/
def IdxPost (lab : Nat → UInt8) (lo hi : Nat) (c : UInt8) (e : Ending) : Prop :=
  (∃ j, lo + j < hi ∧ lab (lo + j) = c ∧ e = .returned (.int .i64 (j : Int))) ∨ ((∀ j, lo ≤ j → j < hi → lab j ≠ c) ∧ e = .returned (.int .i64 (-1)))

theorem idx_any (gl lo hi S cp : Nat) (lab : Nat → UInt8) (c : UInt8) (w : World) (hl : w.rowIs gl 5 S (bcell lab)) (h1 : lo ≤ hi) (h2 : hi ≤ S) :
    Calls Try.prog 28 #[.slice (some ⟨gl, lo, none⟩) (hi - lo) cp, .int .u8 (c.toNat : Int)] w fun e w' => IdxPost lab lo hi c e ∧ w' = w := by
  refine (indexByte_any gl lo (hi - lo) cp ((List.range (hi - lo)).map fun i => ((lab (lo + i)).toNat : Int)) (c.toNat : Int) w (by simp) (fun i hi' => ?_)).mono ?_
  · rw [hl.cell (by omega)]
    unfold bcell
    rw [Pl.getD_of (by simpa using hi')]
    simp
  · rintro e w' ⟨rfl, rfl⟩
    refine ⟨?_, rfl⟩
    have hb : Lib.bytesOf ((List.range (hi - lo)).map fun i => ((lab (lo + i)).toNat : Int)) = (List.range (hi - lo)).map fun i => lab (lo + i) := by
      unfold Lib.bytesOf
      rw [List.map_map]
      apply List.map_congr_left
      intro i _
      simp
    have hc : ((c.toNat : Int)).toNat.toUInt8 = c := by simp
    rw [hb, hc]
    rcases indexByte_spec c ((List.range (hi - lo)).map fun i => lab (lo + i)) with ⟨h3, h4⟩ | ⟨j, h, h3, h4⟩
    · right
      refine ⟨fun j hj1 hj2 => ?_, by rw [h3]⟩
      have := h4 (j - lo) (by simp; omega)
      simp at this
      have e : lo + (j - lo) = j := by omega
      rw [e] at this
      exact this
    · left
      simp at h h4
      exact ⟨j, by omega, h4, by rw [h3]⟩

section
variable {gm gl gf gF gO ge gd S D N : Nat} {lab : Nat → UInt8} {fst F : Nat → Nat} {O : Nat → Int} {Rv : Array Value} {R en Dn : Nat → Nat} {w : World}
theorem MMem.drewN (h : MMem gm gl gf gF gO ge gd S D N lab fst F O Rv R en Dn w) (n : Nat) : MMem gm gl gf gF gO ge gd S D N lab fst F O Rv R en Dn (w.drewN n) :=
  ⟨row_drewN h.rm n, h.root, row_drewN h.rl n, row_drewN h.rf n, row_drewN h.rF n, row_drewN h.rO n, row_drewN h.re n, row_drewN h.rd n⟩
theorem MMem.below {B : Nat} {w' : World} (h : MMem gm gl gf gF gO ge gd S D N lab fst F O Rv R en Dn w) (hb : Below B w w') (hB : w.heap.size ≤ B) : MMem gm gl gf gF gO ge gd S D N lab fst F O Rv R en Dn w' :=
  ⟨h.rm.of_block (hb.block _ (Nat.lt_of_lt_of_le h.rm.lt hB)), h.root, h.rl.of_block (hb.block _ (Nat.lt_of_lt_of_le h.rl.lt hB)), h.rf.of_block (hb.block _ (Nat.lt_of_lt_of_le h.rf.lt hB)), h.rF.of_block (hb.block _ (Nat.lt_of_lt_of_le h.rF.lt hB)), h.rO.of_block (hb.block _ (Nat.lt_of_lt_of_le h.rO.lt hB)), h.re.of_block (hb.block _ (Nat.lt_of_lt_of_le h.re.lt hB)), h.rd.of_block (hb.block _ (Nat.lt_of_lt_of_le h.rd.lt hB))⟩
theorem MMem.rootc (h : MMem gm gl gf gF gO ge gd S D N lab fst F O Rv R en Dn w) {c : Nat} (hc : c < 256) : w.cell? ⟨gm, 4 + c, none⟩ = some (.int .i32 (R c : Int)) := by
  rw [h.rm.cell (by omega)]
  unfold mcell
  have e0 : 4 + c ≠ 0 := by omega
  have e1 : 4 + c ≠ 1 := by omega
  have e2 : 4 + c ≠ 2 := by omega
  have e3 : 4 + c ≠ 3 := by omega
  have e4 : 4 + c ≠ 260 := by omega
  have e5 : 4 + c ≠ 261 := by omega
  simp only [e0, e1, e2, e3, e4, e5, if_false]
  rw [Nat.add_sub_cancel_left, h.root c hc]
end

/-- What next returns. -/
def NextPost (w : World) (T : List ByteArray) (L : List (List UInt8)) (u : List UInt8) (e : Ending) (w' : World) : Prop :=
  ∃ t, t < L.length ∧ Pl.pf L t = Pl.lsuf (Pl.PP T) u ∧ e = .returned (.int .i32 (t : Int)) ∧ Drawn w w'

set_option maxRecDepth 100000 in
set_option maxHeartbeats 1000000 in
theorem next_any {T : List ByteArray} {L : List (List UInt8)} {par : Nat → Nat} {lab : Nat → UInt8} {F : Nat → Nat} {O : Nat → Int} {Rv : Array Value} {R en Dn : Nat → Nat} (gm gl gf gF gO ge gd S D N : Nat) (w : World) (s : Nat) (c : UInt8)
    (hM : MMem gm gl gf gF gO ge gd S D N lab (Pl.fstC par S) F O Rv R en Dn w) (hI : Pl.MI T L par lab F O R en) (hL : L.length = S) (hS : S ≤ 1048577) (hs : s < S) :
    Calls Try.prog 25 #[.pointer (some ⟨gm, 0, none⟩), .int .i32 (s : Int), .int .u8 (c.toNat : Int)] w (NextPost w T L (Pl.pf L s ++ [c])) := by
  have HM : Hid _ := hM
  have HI : Hid _ := hI
  have HL : Hid _ := hL
  clear hM hI hL
  have hc256 : c.toNat < 256 := c.toNat_lt
  go_enter Try.func25, Try.ntmps25
  go_upto_region 1 with fail
  go_wp2_with fail
  go_loopg [1] s (fun g v1 wk => ∃ (s2 : Nat), s2 < S ∧ Hid (g = s2) ∧ v1 = .int .i32 (s2 : Int) ∧ Hid (Pl.lsuf (Pl.PP T) (Pl.pf L s2 ++ [c]) = Pl.lsuf (Pl.PP T) (Pl.pf L s ++ [c])) ∧ Hid (MMem gm gl gf gF gO ge gd S D N lab (Pl.fstC par S) F O Rv R en Dn wk) ∧ Drawn w wk)
  case atStart => exact ⟨s, hs, rfl, rfl, rfl, HM, drawn0 w⟩
  case round =>
    clear HM
    obtain ⟨s2, hs2, Hg, rfl, HX, HM, Hdr⟩ := hrel
    have HDr : Hid (Drawn w wr) := Hdr
    clear Hdr
    by_cases h0 : s2 = 0
    · subst h0
      have hcr := HM.out.rootc hc256
      have HR : Hid _ := HI.out.root c hc256
      have h0' : ((0 : Int) != 0) = false := by simp
      generalize R c.toNat = r at hcr HR
      go_wp2
      go_ret
      refine ⟨r, HR.out.1, ?_, rfl, HDr.out⟩
      rw [HR.out.2, ← HX.out, HI.out.trie.root]
    · have hs2L : s2 < L.length := by rw [HL.out]; exact hs2
      have HK : Hid _ := HI.out.trie.kids hs2L c
      have HKl : Hid _ := HI.out.trie.first_le s2
      rw [HL.out] at HK HKl
      have hm1 : wr.cell? ⟨gm, 1, none⟩ = some (.slice (some ⟨gf, 0, none⟩) (S + 1) (S + 1)) := HM.out.rm.cell (by omega)
      have hm0 : wr.cell? ⟨gm, 0, none⟩ = some (.slice (some ⟨gl, 0, none⟩) S S) := HM.out.rm.cell (by omega)
      have hm2 : wr.cell? ⟨gm, 2, none⟩ = some (.slice (some ⟨gF, 0, none⟩) S S) := HM.out.rm.cell (by omega)
      have hc0 : wr.cell? ⟨gf, s2, none⟩ = some (.int .i32 (Pl.fstC par S s2 : Int)) := HM.out.rf.cell (by omega)
      have hc1 : wr.cell? ⟨gf, s2 + 1, none⟩ = some (.int .i32 (Pl.fstC par S (s2 + 1) : Int)) := HM.out.rf.cell (by omega)
      have hlh := HKl.out.1
      have hhS : Pl.fstC par S (s2 + 1) ≤ S := HKl.out.2
      generalize Pl.fstC par S s2 = lo at hc0 hlh HK
      generalize Pl.fstC par S (s2 + 1) = hi at hc1 hlh hhS HK
      clear HKl
      obtain ⟨f', Hf'⟩ : ∃ f', Hid (F s2 = f') := ⟨_, rfl⟩
      have hcF : wr.cell? ⟨gF, s2, none⟩ = some (.int .i32 (f' : Int)) := by rw [← Hf'.out]; exact HM.out.rF.cell hs2
      have hfl : f' < s2 := by rw [← Hf'.out]; exact Pl.FailOK.lt HI.out.trie HI.out.fail hs2L h0 hs2L
      have HMiss : Hid ((∀ j, lo ≤ j → j < hi → lab j ≠ c) → Pl.lsuf (Pl.PP T) (Pl.pf L f' ++ [c]) = Pl.lsuf (Pl.PP T) (Pl.pf L s ++ [c])) := by
        intro hno
        rw [← Hf'.out, (HI.out.fail s2 hs2L).2, ← Pl.next_miss (Pl.PP_nil T) (Pl.pre_PP T) _ _ (HI.out.trie.ne_nil h0 hs2L) (HK.out.2 hno)]
        exact HX.out
      have HHit : Hid (∀ j, lo ≤ j → j < hi → lab j = c → j < L.length ∧ Pl.pf L j = Pl.lsuf (Pl.PP T) (Pl.pf L s ++ [c])) := by
        intro j h1 h2 h3
        obtain ⟨g1, g2⟩ := HK.out.1 j h1 h2 h3
        rw [← HL.out] at g1
        exact ⟨g1, by rw [HI.out.trie.hit g1 g2]; exact HX.out⟩
      have h0' : ((s2 : Int) != 0) = true := by simpa using h0
      have hs2L' : Hid _ := hs2L
      clear hs2L HK HX
      have hsz0 := HM.out.rl.lt
      by_cases h8 : hi - lo ≤ 8
      · have h8' : (hi : Int) - (lo : Int) ≤ 8 := by omega
        go_upto_region 2 with fail
        go_quiet (fail)
        rename Nat => n1
        obtain ⟨wq, Hwq⟩ : ∃ wq, Hid (wq = wr.drewN n1) := ⟨_, rfl⟩
        rw [← Hwq.out]
        have HMq : Hid (MMem gm gl gf gF gO ge gd S D N lab (Pl.fstC par S) F O Rv R en Dn wq) := by
          have h := HM.out.drewN n1
          rw [← Hwq.out] at h
          exact h
        have HDq : Hid (Drawn w wq) := by
          obtain ⟨m, e⟩ := HDr.out
          refine ⟨m + n1, ?_⟩
          rw [Hwq.out, e]; simp
        have hm0 : wq.cell? ⟨gm, 0, none⟩ = some (.slice (some ⟨gl, 0, none⟩) S S) := HMq.out.rm.cell (by omega)
        have hm2 : wq.cell? ⟨gm, 2, none⟩ = some (.slice (some ⟨gF, 0, none⟩) S S) := HMq.out.rm.cell (by omega)
        have hcF : wq.cell? ⟨gF, s2, none⟩ = some (.int .i32 (f' : Int)) := by rw [← Hf'.out]; exact HMq.out.rF.cell hs2
        clear hm1 hc0 hc1 Hwq HDr
        go_upto_region 5 with fail
        go_wp2_with fail
        go_loopg [9] (hi - lo) (fun g2 v9 wk => ∃ (j : Nat), lo ≤ j ∧ j ≤ hi ∧ Hid (g2 = hi - j) ∧ v9 = .int .i32 (j : Int) ∧ Hid (∀ i, lo ≤ i → i < j → lab i ≠ c) ∧ wk = wq)
        case atStart => exact ⟨lo, Nat.le_refl _, hlh, rfl, rfl, fun i h1 h2 => by omega, rfl⟩
        case round =>
          obtain ⟨j, hj1, hj2, Hg2, rfl, HNo, rfl⟩ := hrel
          by_cases hlt : j < hi
          · have hcl : wr.cell? ⟨gl, j, none⟩ = some (.int .u8 ((lab j).toNat : Int)) := HMq.out.rl.cell (by omega)
            by_cases he : lab j = c
            · have h3 : (((lab j).toNat : Int) == (c.toNat : Int)) = true := by rw [ch_eq, he]; simp
              have HH : Hid _ := HHit.out j hj1 hlt he
              clear he
              go_wp2
              go_ret
              exact ⟨j, HH.out.1, HH.out.2, rfl, HDq.out⟩
            · have h3 : (((lab j).toNat : Int) == (c.toNat : Int)) = false := by rw [ch_eq]; simp [he]
              go_wp2
              go_roundg (hi - (j + 1))
              case measure => rw [Hg2.out]; omega
              case rel =>
                refine ⟨j + 1, by omega, by omega, rfl, by go_num, fun i h1 h2 => ?_, rfl⟩
                by_cases e : i = j
                · subst e; exact he
                · exact HNo.out i h1 (by omega)
          · have ej : j = hi := by omega
            subst ej
            have HN : Hid _ := HMiss.out HNo.out
            go_wp2
            go_roundg f'
            case measure => rw [Hg.out]; exact hfl
            case rel => exact ⟨f', by omega, rfl, rfl, HN, HMq, HDq.out⟩
      · have h8' : decide ((hi : Int) - (lo : Int) ≤ 8) = false := by rw [decide_eq_false_iff_not]; omega
        go_upto_region 2 with fail
        go_quiet (fail)
        rename Nat => n1
        obtain ⟨wq, Hwq⟩ : ∃ wq, Hid (wq = wr.drewN n1) := ⟨_, rfl⟩
        rw [← Hwq.out]
        have HMq : Hid (MMem gm gl gf gF gO ge gd S D N lab (Pl.fstC par S) F O Rv R en Dn wq) := by
          have h := HM.out.drewN n1
          rw [← Hwq.out] at h
          exact h
        have HDq : Hid (Drawn w wq) := by
          obtain ⟨m, e⟩ := HDr.out
          refine ⟨m + n1, ?_⟩
          rw [Hwq.out, e]; simp
        have hm0 : wq.cell? ⟨gm, 0, none⟩ = some (.slice (some ⟨gl, 0, none⟩) S S) := HMq.out.rm.cell (by omega)
        have hm2 : wq.cell? ⟨gm, 2, none⟩ = some (.slice (some ⟨gF, 0, none⟩) S S) := HMq.out.rm.cell (by omega)
        have hcF : wq.cell? ⟨gF, s2, none⟩ = some (.int .i32 (f' : Int)) := by rw [← Hf'.out]; exact HMq.out.rF.cell hs2
        clear hm1 hc0 hc1 Hwq HDr
        have HIdx : Hid _ := idx_any gl lo hi S (S - lo) lab c wq HMq.out.rl hlh hhS
        go_upto_region 9 with fail
        go_wp2_with fail
        refine Calls.mono HIdx.out ?_
        rintro e w5 ⟨hkp, rfl⟩
        clear HIdx
        rcases hkp with ⟨j, hj, hpj, rfl⟩ | ⟨hno, rfl⟩
        · have HH : Hid _ := HHit.out (lo + j) (by omega) hj hpj
          have hjb : j ≤ 1048577 := by omega
          clear hpj
          go_wp2
          go_ret
          exact ⟨lo + j, HH.out.1, HH.out.2, by go_num, HDq.out⟩
        · have HN : Hid _ := HMiss.out hno
          clear hno
          go_wp2
          go_roundg f'
          case measure => rw [Hg.out]; exact hfl
          case rel => exact ⟨f', by omega, rfl, rfl, HN, HMq, HDq.out⟩
end Go.Proofs.Qxb6001318a
