/-
  THE WALK of Find.
-/
import Derived.Test.Qxb6001318aMark
import Derived.Deep.MidRow
namespace Go.Proofs.Qxb6001318a
open Go.RowKit
set_option linter.unusedSimpArgs false
set_option linter.unusedVariables false

theorem info56 : (Try.prog.info? 56).map (fun i => (i.zero, i.size, i.bytes)) = some (some (.int .u64 0), 1, 8) := by kernel_rfl
theorem zero40 (w : World) : (zeroValue 40).run Try.prog w = .ok (.agg #[.slice none 0 0, .slice none 0 0]) w := by kernel_rfl

theorem row_found (w : World) (gd N gb W g : Nat) (e : g = w.heap.size) : (w.alloc (.cells #[.slice (some ⟨gd, 0, none⟩) N N, .slice (some ⟨gb, 0, none⟩) W W] 40)).rowIs g 40 2 (fcell gd N gb W) := by
  subst e
  refine World.rowIs_alloc w #[.slice (some ⟨gd, 0, none⟩) N N, .slice (some ⟨gb, 0, none⟩) W W] 40 _ (fun i hi => ?_)
  have : i = 0 ∨ i = 1 := by simp at hi; omega
  rcases this with e | e <;> subst e <;> rfl

theorem row_zero (w : World) (W g : Nat) (e : g = w.heap.size) : (w.alloc (.cells (madeCells #[.int .u64 0] W) 56)).rowIs g 56 W (wcell fun _ => false) := by
  subst e
  refine (World.rowIs_made w _ W 56).congr fun j _ => ?_
  unfold wcell
  rw [Pl.word_zero]; rfl

theorem wrap_left (D n : Nat) (h : n ≤ D) (hb : D ≤ 65536) : Value.int .i64 (IntKind.i64.wrap ((D : Int) - (n : Int))) = .int .i64 ((D - n : Nat) : Int) := by
  rw [IntKind.wrap_i64]
  congr 1
  omega

theorem results_cell1 {fn : Func} {c : Tmp} {t : TypeId} (h : fn.results = #[.cell c t]) (tmps : Array Value) (P : Program) (w : World) (x : Value) (p : Addr) (hp : tmps.getD c undef = .pointer (some p)) (hl : (loadVar t p).run P w = .ok x w) :
    (results fn tmps).run P w = .ok x w := by
  simp only [Array.getD_eq_getD_getElem?] at hp
  simp [results, h, hp, Sem.run_bind, hl, asAddr]

theorem load40 (w : World) (g : Nat) (a b : Value) (h0 : w.cell? ⟨g, 0, none⟩ = some a) (h1 : w.cell? ⟨g, 1, none⟩ = some b) : (loadVar 40 ⟨g, 0, none⟩).run Try.prog w = .ok (.agg #[a, b]) w := by
  have hi : (Try.prog.info? 40).map (·.size) = some 2 := by kernel_rfl
  exact run_loadVar_mid (P := Try.prog) w g 0 40 [a, b] _ (fun j v hv => by
    have : j = 0 ∨ j = 1 := by
      have := (List.getElem?_eq_some_iff.1 hv).1
      simp at this
      omega
    rcases this with e | e
    · subst e; simp at hv; subst hv; exact h0
    · subst e; simp at hv; subst hv; exact h1) Try.underlying40 rfl hi

/-- What Find returns. -/
def FindPost (w : World) (T : List ByteArray) (t : ByteArray) (gd N : Nat) (e : Ending) (w' : World) : Prop :=
  ∃ (gb W : Nat) (G : Nat → Bool), e = .returned (.agg #[.slice (some ⟨gd, 0, none⟩) N N, .slice (some ⟨gb, 0, none⟩) W W]) ∧ w'.rowIs gb 56 W (wcell G) ∧ T.length ≤ 64 * W ∧ (∀ d, d < T.length → (G d = true ↔ Pl.occ (Pl.Txt T d) t.data.toList = true)) ∧ w.heap.size ≤ gb ∧ Below w.heap.size w w'

set_option maxRecDepth 100000 in
set_option maxHeartbeats 1000000 in
theorem find_any {T : List ByteArray} {L : List (List UInt8)} {par : Nat → Nat} {lab : Nat → UInt8} {F : Nat → Nat} {O : Nat → Int} {Rv : Array Value} {R en Dn : Nat → Nat} (gm gl gf gF gO ge gd S D N : Nat) (w : World) (t : ByteArray)
    (hM : MMem gm gl gf gF gO ge gd S D N lab (Pl.fstC par S) F O Rv R en Dn w) (hI : Pl.MI T L par lab F O R en) (hL : L.length = S) (hS : S ≤ 1048577) (hD : T.length = D) (hDb : D ≤ 65536) (hsrt : Pl.Srt T) (ht : t.size ≤ 1048576) :
    Calls Try.prog 16 #[.pointer (some ⟨gm, 0, none⟩), .string t] w (FindPost w T t gd N) := by
  have HM : Hid _ := hM
  have HI : Hid _ := hI
  have HL : Hid _ := hL
  have HD : Hid _ := hD
  have Hsrt : Hid (Pl.Srt T) := hsrt
  clear hM hI hL hD hsrt
  have hz := zero40
  obtain ⟨W, HW⟩ : ∃ W, Hid (W = (D + 63) / 64) := ⟨_, rfl⟩
  have hW1 : D ≤ 64 * W := by rw [HW.out]; omega
  have hWb : W ≤ 1025 := by rw [HW.out]; omega
  have hWe : ((D : Int) + 63) / 64 = (W : Int) := by rw [HW.out]; omega
  have hmk := run_make_row' (P := Try.prog) 38 56 (.int .u64 0) 8 Try.underlying38 info56 rfl .i64 .i64 W (by omega) (by omega)
  go_enter Try.func16, Try.ntmps16
  go_upto_region 1 with fail
  obtain ⟨w1, gr, Hw1⟩ : ∃ (w1 : World) (gr : Nat), Hid (w1 = w.alloc (.cells #[.slice none 0 0, .slice none 0 0] 40) ∧ gr = w.heap.size) := ⟨_, _, rfl, rfl⟩
  rw [← Hw1.out.1, ← Hw1.out.2]
  have hbw : Below w.heap.size w w1 := by rw [Hw1.out.1]; exact (Below.refl _ w).alloc (Nat.le_refl _) _
  have HM1 : Hid (MMem gm gl gf gF gO ge gd S D N lab (Pl.fstC par S) F O Rv R en Dn w1) := HM.out.below hbw (Nat.le_refl _)
  have HGr : Hid (∃ f, w1.rowIs gr 40 2 f) := by
    refine ⟨fun j => .slice none 0 0, ?_⟩
    rw [Hw1.out.1, Hw1.out.2]
    refine World.rowIs_alloc w #[.slice none 0 0, .slice none 0 0] 40 _ (fun i hi => ?_)
    have : i = 0 ∨ i = 1 := by simp at hi; omega
    rcases this with e | e <;> subst e <;> rfl
  have hgr : w.heap.size ≤ gr := by rw [Hw1.out.2]; exact Nat.le_refl _
  have hm6 : ∀ o, (w1.alloc o).cell? ⟨gm, 261, none⟩ = some (.slice (some ⟨gd, 0, none⟩) N N) := fun o => (HM1.out.rm.alloc o).cell (by omega)
  have hm5 : ∀ o, (w1.alloc o).cell? ⟨gm, 260, none⟩ = some (.slice (some ⟨ge, 0, none⟩) D D) := fun o => (HM1.out.rm.alloc o).cell (by omega)
  have hm6' : w1.cell? ⟨gm, 261, none⟩ = some (.slice (some ⟨gd, 0, none⟩) N N) := HM1.out.rm.cell (by omega)
  have hm5' : w1.cell? ⟨gm, 260, none⟩ = some (.slice (some ⟨ge, 0, none⟩) D D) := HM1.out.rm.cell (by omega)
  have hm6'' : ∀ o o', ((w1.alloc o).alloc o').cell? ⟨gm, 261, none⟩ = some (.slice (some ⟨gd, 0, none⟩) N N) := fun o o' => ((HM1.out.rm.alloc o).alloc o').cell (by omega)
  have hm5'' : ∀ o o', ((w1.alloc o).alloc o').cell? ⟨gm, 260, none⟩ = some (.slice (some ⟨ge, 0, none⟩) D D) := fun o o' => ((HM1.out.rm.alloc o).alloc o').cell (by omega)
  clear Hw1
  go_cut [5] (fun p wc => ∃ gq gb : Nat, p = .pointer (some ⟨gq, 0, none⟩) ∧ w1.heap.size ≤ gq ∧ w1.heap.size ≤ gb ∧ wc.rowIs gq 40 2 (fcell gd N gb W) ∧ wc.rowIs gb 56 W (wcell fun _ => false) ∧ Below w1.heap.size w1 wc)
  case first =>
    go_region
    all_goals
      go_wp2_with fail
      go_meet
      case rel =>
        first
          | exact ⟨w1.heap.size + 1, w1.heap.size, rfl, by omega, by omega, (row_found _ _ _ _ _ _ (by simp)).drew, ((row_zero _ _ _ rfl).alloc _).drew, (((Below.refl _ w1).alloc (Nat.le_refl _) _).alloc (by simp) _).drew⟩
          | exact ⟨w1.heap.size, w1.heap.size + 1, rfl, by omega, by omega, ((row_found _ _ _ _ _ _ rfl).alloc _).drew, (row_zero _ _ _ (by simp)).drew, (((Below.refl _ w1).alloc (Nat.le_refl _) _).alloc (by simp) _).drew⟩
  case rest =>
    obtain ⟨gq, gb, rfl, hgq, hgb, hq, hb, hbc⟩ := hcut
    clear hm5 hm6 hm5' hm6' hm5'' hm6'' hz hmk
    rename World => w2
    have HM2 : Hid (MMem gm gl gf gF gO ge gd S D N lab (Pl.fstC par S) F O Rv R en Dn w2) := HM1.out.below hbc (Nat.le_refl _)
    have HGr2 : Hid (∃ f, w2.rowIs gr 40 2 f) := by
      obtain ⟨f, h⟩ := HGr.out
      exact ⟨f, h.of_block (hbc.block _ h.lt)⟩
    have hgrb : gr ≠ gb := by
      obtain ⟨f, h⟩ := HGr.out
      have := h.lt
      omega
    have hgrq : gr ≠ gq := by
      obtain ⟨f, h⟩ := HGr.out
      have := h.lt
      omega
    have hbel2 : Below w.heap.size w w2 := hbw.trans (hbc.mono hbw.size)
    have hwq : w.heap.size ≤ gq := Nat.le_trans hbw.size hgq
    have hwb : w.heap.size ≤ gb := Nat.le_trans hbw.size hgb
    have HQ : Hid (w2.rowIs gq 40 2 (fcell gd N gb W)) := hq
    have HB : Hid (w2.rowIs gb 56 W (wcell fun _ => false)) := hb
    have h0S : 0 < S := by rw [← HL.out]; exact HI.out.trie.pos
    obtain ⟨o0, Ho1, Ho2⟩ : ∃ o0, Hid (Pl.IsOut T [] o0) ∧ Hid (O 0 = Pl.oi o0) := by
      obtain ⟨o, h1, h2⟩ := HI.out.out 0 HI.out.trie.pos
      rw [HI.out.trie.root] at h1
      exact ⟨o, h1, h2⟩
    have Holt : Hid (∀ d, o0 = some d → d < T.length) := by
      intro d e
      have h := Ho1.out
      rw [e] at h
      exact h.1
    have HMk : Hid (Calls Try.prog 24 #[.pointer (some ⟨gm, 0, none⟩), .pointer (some ⟨gq, 0, none⟩), .int .i32 (Pl.oi o0)] w2.drew (MarkPost w2.drew T (fun _ => false) o0 gb W)) :=
      mark_any gm gl gf gF gO ge gd S D N gq gb W w2.drew (fun _ => false) o0 (HM2.out.drewN 1) HI.out HL.out hS HD.out hDb Hsrt.out HQ.out.drew HB.out.drew hW1 (fun e _ h => by cases h) Holt.out
    have hm5 : w2.cell? ⟨gm, 260, none⟩ = some (.slice (some ⟨ge, 0, none⟩) D D) := HM2.out.rm.cell (by omega)
    have hm3 : w2.cell? ⟨gm, 3, none⟩ = some (.slice (some ⟨gO, 0, none⟩) S S) := HM2.out.rm.cell (by omega)
    have hcO : w2.cell? ⟨gO, 0, none⟩ = some (.int .i32 (Pl.oi o0)) := by rw [← Ho2.out]; exact HM2.out.rO.cell h0S
    clear HM HM1 HGr hbw hbc hq hb
    go_upto_region 2 with fail
    go_region_held3 (fun w' => w'.cell? ⟨gm, 260, none⟩ = some (.slice (some ⟨ge, 0, none⟩) D D) ∧ w'.cell? ⟨gm, 3, none⟩ = some (.slice (some ⟨gO, 0, none⟩) S S) ∧ w'.cell? ⟨gO, 0, none⟩ = some (.int .i32 (Pl.oi o0))) (go_keep) ((go_at_call 24; refine Calls.mono HMk.out ?_; rintro e w3 ⟨G1, n1, rfl, hG3, hBt3, hMkd⟩; have HG3 : Hid (w3.rowIs gb 56 W (wcell G1)) := hG3; have HBt3 : Hid (But gb w2 w3) := (show But gb w2 w2.drew from ⟨rfl, rfl, rfl, Nat.le_refl _, fun _ _ _ => rfl⟩).trans hBt3; have HMkd : Hid _ := hMkd; have HM3 : Hid _ := HM2.out.but HB.out HBt3.out; have d1 : w3.cell? ⟨gm, 260, none⟩ = some (.slice (some ⟨ge, 0, none⟩) D D) := HM3.out.rm.cell (by omega); have d2 : w3.cell? ⟨gm, 3, none⟩ = some (.slice (some ⟨gO, 0, none⟩) S S) := HM3.out.rm.cell (by omega); have d3 : w3.cell? ⟨gO, 0, none⟩ = some (.int .i32 (Pl.oi o0)) := (by rw [← Ho2.out]; exact HM3.out.rO.cell h0S); clear hG3 hBt3 hMkd))
    rename World.cell? _ _ = _ ∧ _ => hHeld
    clear hHeld d1 d2 d3 hm5 hm3 hcO HMk
    have hcc := HMkd.out.cnt
    have hcle := Pl.cntG_le G1 T.length
    rw [Pl.cntG_zero, HD.out] at hcc
    rw [HD.out] at hcle
    have hn1 : n1 ≤ D := by omega
    have HC0 : Hid ((D - n1) + Pl.cntG G1 D = D) := by show _ = _; omega
    have HF0 : Hid (Pl.FI T t.data.toList 0 G1) := Pl.FI.start Ho1.out HMkd.out
    have Hcl0 : Hid (Pl.Closed T G1) := HMkd.out.closed (fun e _ h => by cases h)
    have hqb : gq ≠ gb := row_ne HQ.out HB.out (by decide)
    have HTl : Hid (t.data.toList.length = t.size) := by show _ = _; simp
    clear hcc hcle HM3 hgq hgb hWe
    go_upto_region 5 with fail
    go_wp2_with fail
    go_loopg [6, 7, 8] t.size (fun g v6 v7 v8 wk => ∃ (i s : Nat) (G : Nat → Bool) (left : Nat), i ≤ t.size ∧ s < S ∧ left ≤ 65536 ∧ Hid (g = t.size - i) ∧ v6 = .int .i64 (left : Int) ∧ v7 = .int .i32 (s : Int) ∧ v8 = .int .i64 (i : Int) ∧
      Hid (left + Pl.cntG G D = D) ∧ Hid (wk.rowIs gb 56 W (wcell G)) ∧ Hid (But gb w2 wk) ∧ Hid (Pl.FI T t.data.toList i G) ∧ Hid (Pl.pf L s = Pl.lsuf (Pl.PP T) (t.data.toList.take i)) ∧ Hid (Pl.Closed T G))
    case atStart => exact ⟨0, 0, G1, D - n1, by omega, h0S, by omega, rfl, wrap_left D n1 hn1 hDb, rfl, rfl, HC0, HG3, HBt3, HF0, (by show _ = _; rw [HI.out.trie.root]; rfl), Hcl0⟩
    case round =>
      clear HC0 HG3 HBt3 HF0 Hcl0 HMkd
      obtain ⟨i, s, G, left, hi, hsS, hleft, Hg, rfl, rfl, rfl, HC, HG, HBt, HFI, HPs, Hcl⟩ := hrel
      have HMr : Hid (MMem gm gl gf gF gO ge gd S D N lab (Pl.fstC par S) F O Rv R en Dn wr) := HM2.out.but HB.out HBt.out
      by_cases hgo : i < t.size ∧ 0 < left
      · obtain ⟨hit, hl0⟩ := hgo
        have Hc : Hid (t.data.toList[i]? = some t[i]) := by
          show _ = _
          rw [List.getElem?_eq_getElem (by simpa using hit)]; rfl
        have HNx : Hid (Pl.lsuf (Pl.PP T) (Pl.pf L s ++ [t[i]]) = Pl.lsuf (Pl.PP T) (t.data.toList.take (i + 1))) := Pl.lsuf_next HPs.out Hc.out
        have hc256 : t[i].toNat < 256 := t[i].toNat_lt
        by_cases hs0 : s = 0
        · subst hs0
          have hcr := HMr.out.rootc hc256
          have HR : Hid _ := HI.out.root t[i] hc256
          obtain ⟨s', Hs'⟩ : ∃ s', Hid (R t[i].toNat = s') := ⟨R t[i].toNat, rfl⟩
          rw [Hs'.out] at hcr HR
          have hs'S : s' < S := by rw [← HL.out]; exact HR.out.1
          have Hps : Hid (Pl.pf L s' = Pl.lsuf (Pl.PP T) (t.data.toList.take (i + 1))) := by
            show _ = _
            rw [HR.out.2, ← HNx.out, HI.out.trie.root]
          have hm4 : wr.cell? ⟨gm, 4 + t[i].toNat, none⟩ = some (.int .i32 (s' : Int)) := hcr
          by_cases hs'0 : s' = 0
          · subst hs'0
            have HF2 : Hid (Pl.FI T t.data.toList (i + 1) G) := HFI.out.root (by rw [← Hps.out, HI.out.trie.root])
            go_upto_region 8 with fail
            go_quiet (fail)
            rename Nat => n3
            go_wp2
            go_roundg (t.size - (i + 1))
            case measure => rw [Hg.out]; omega
            case rel => exact ⟨i + 1, 0, G, left, by omega, hsS, hleft, rfl, rfl, rfl, by go_num, HC, row_drewN HG.out n3, HBt.out.drewN n3, HF2, Hps, Hcl⟩
          · have hs'0' : ((s' : Int) == 0) = false := by rw [beq_eq_false_iff_ne]; omega
            go_upto_region 8 with fail
            go_quiet (fail)
            rename Nat => n3
            obtain ⟨wq, Hwq⟩ : ∃ wq, Hid (wq = wr.drewN n3) := ⟨_, rfl⟩
            rw [← Hwq.out]
            have HGq : Hid (wq.rowIs gb 56 W (wcell G)) := by have h := row_drewN HG.out n3; rw [← Hwq.out] at h; exact h
            have HBtq : Hid (But gb w2 wq) := by have h := HBt.out.drewN n3; rw [← Hwq.out] at h; exact h
            have HMq : Hid (MMem gm gl gf gF gO ge gd S D N lab (Pl.fstC par S) F O Rv R en Dn wq) := HM2.out.but HB.out HBtq.out
            clear hcr hm4 Hwq HR
            obtain ⟨o, Hq1, Hq2⟩ : ∃ o, Hid (Pl.IsOut T (Pl.pf L s') o) ∧ Hid (O s' = Pl.oi o) := by
              obtain ⟨o, h1, h2⟩ := HI.out.out s' (by rw [HL.out]; exact hs'S)
              exact ⟨o, h1, h2⟩
            have hm3 : wq.cell? ⟨gm, 3, none⟩ = some (.slice (some ⟨gO, 0, none⟩) S S) := HMq.out.rm.cell (by omega)
            have hcO : wq.cell? ⟨gO, s', none⟩ = some (.int .i32 (Pl.oi o)) := by rw [← Hq2.out]; exact HMq.out.rO.cell hs'S
            cases o with
            | none =>
              have eo : Pl.oi none = -1 := rfl
              rw [eo] at hcO
              clear eo
              have HF2 : Hid (Pl.FI T t.data.toList (i + 1) G) := HFI.out.none Hps.out Hq1.out
              go_wp2
              go_roundg (t.size - (i + 1))
              case measure => rw [Hg.out]; omega
              case rel => exact ⟨i + 1, s', G, left, by omega, hs'S, hleft, rfl, rfl, rfl, by go_num, HC, HGq, HBtq, HF2, Hps, Hcl⟩
            | some d =>
              have eo : Pl.oi (some d) = (d : Int) := rfl
              rw [eo] at hcO
              have hdT : d < T.length := Hq1.out.1
              have HQq : Hid (wq.rowIs gq 40 2 (fcell gd N gb W)) := HBtq.out.row hqb HQ.out
              have hMk := mark_any gm gl gf gF gO ge gd S D N gq gb W wq G (some d) HMq.out HI.out HL.out hS HD.out hDb Hsrt.out HQq.out HGq.out hW1 Hcl.out (fun d' e => by cases e; exact hdT)
              rw [eo] at hMk
              have HMk : Hid _ := hMk
              have hd0 : (0 : Int) ≤ (d : Int) := by omega
              clear eo hMk hdT
              go_upto_region 13 with fail
              go_wp2_with fail
              refine Calls.mono HMk.out ?_
              rintro e w5 ⟨G2, n2, rfl, hG2, hBt2, hMkd⟩
              have HG2 : Hid (w5.rowIs gb 56 W (wcell G2)) := hG2
              have HBt5 : Hid (But gb w2 w5) := HBtq.out.trans hBt2
              have HF2 : Hid (Pl.FI T t.data.toList (i + 1) G2) := HFI.out.mark Hps.out Hq1.out hMkd
              have Hcl2 : Hid (Pl.Closed T G2) := hMkd.closed Hcl.out
              have hcc := hMkd.cnt
              have hcle := Pl.cntG_le G2 T.length
              rw [HD.out] at hcc hcle
              have hn2 : n2 ≤ left := by have := HC.out; omega
              have HC2 : Hid ((left - n2) + Pl.cntG G2 D = D) := by show _ = _; have := HC.out; omega
              clear HMk hG2 hBt2 hMkd hcc hcle
              go_wp2
              go_roundg (t.size - (i + 1))
              case measure => rw [Hg.out]; omega
              case rel => exact ⟨i + 1, s', G2, left - n2, by omega, hs'S, by omega, rfl, by go_num, rfl, by go_num, HC2, HG2, HBt5, HF2, Hps, Hcl2⟩
        · have HN : Hid _ := next_any gm gl gf gF gO ge gd S D N wr s t[i] HMr.out HI.out HL.out hS hsS
          have hs0' : ((s : Int) == 0) = false := by rw [beq_eq_false_iff_ne]; omega
          go_upto_region 10 with fail
          go_wp2_with fail
          refine Calls.mono HN.out ?_
          rintro e wq ⟨s', hs'L, hps, rfl, n3, hwq⟩
          have Hwq : Hid (wq = wr.drewN n3) := hwq
          have Hps : Hid (Pl.pf L s' = Pl.lsuf (Pl.PP T) (t.data.toList.take (i + 1))) := by show _ = _; rw [hps]; exact HNx.out
          have hs'S : s' < S := by rw [← HL.out]; exact hs'L
          have HGq : Hid (wq.rowIs gb 56 W (wcell G)) := by have h := row_drewN HG.out n3; rw [← Hwq.out] at h; exact h
          have HBtq : Hid (But gb w2 wq) := by have h := HBt.out.drewN n3; rw [← Hwq.out] at h; exact h
          have HMq : Hid (MMem gm gl gf gF gO ge gd S D N lab (Pl.fstC par S) F O Rv R en Dn wq) := HM2.out.but HB.out HBtq.out
          clear HN hwq hps hs'L Hwq
          obtain ⟨o, Hq1, Hq2⟩ : ∃ o, Hid (Pl.IsOut T (Pl.pf L s') o) ∧ Hid (O s' = Pl.oi o) := by
            obtain ⟨o, h1, h2⟩ := HI.out.out s' (by rw [HL.out]; exact hs'S)
            exact ⟨o, h1, h2⟩
          have hm3 : wq.cell? ⟨gm, 3, none⟩ = some (.slice (some ⟨gO, 0, none⟩) S S) := HMq.out.rm.cell (by omega)
          have hcO : wq.cell? ⟨gO, s', none⟩ = some (.int .i32 (Pl.oi o)) := by rw [← Hq2.out]; exact HMq.out.rO.cell hs'S
          cases o with
          | none =>
            have eo : Pl.oi none = -1 := rfl
            rw [eo] at hcO
            clear eo
            have HF2 : Hid (Pl.FI T t.data.toList (i + 1) G) := HFI.out.none Hps.out Hq1.out
            go_wp2
            go_roundg (t.size - (i + 1))
            case measure => rw [Hg.out]; omega
            case rel => exact ⟨i + 1, s', G, left, by omega, hs'S, hleft, rfl, rfl, rfl, by go_num, HC, HGq, HBtq, HF2, Hps, Hcl⟩
          | some d =>
            have eo : Pl.oi (some d) = (d : Int) := rfl
            rw [eo] at hcO
            have hdT : d < T.length := Hq1.out.1
            have HQq : Hid (wq.rowIs gq 40 2 (fcell gd N gb W)) := HBtq.out.row hqb HQ.out
            have hMk := mark_any gm gl gf gF gO ge gd S D N gq gb W wq G (some d) HMq.out HI.out HL.out hS HD.out hDb Hsrt.out HQq.out HGq.out hW1 Hcl.out (fun d' e => by cases e; exact hdT)
            rw [eo] at hMk
            have HMk : Hid _ := hMk
            have hd0 : (0 : Int) ≤ (d : Int) := by omega
            clear eo hMk hdT
            go_upto_region 13 with fail
            go_wp2_with fail
            refine Calls.mono HMk.out ?_
            rintro e w5 ⟨G2, n2, rfl, hG2, hBt2, hMkd⟩
            have HG2 : Hid (w5.rowIs gb 56 W (wcell G2)) := hG2
            have HBt5 : Hid (But gb w2 w5) := HBtq.out.trans hBt2
            have HF2 : Hid (Pl.FI T t.data.toList (i + 1) G2) := HFI.out.mark Hps.out Hq1.out hMkd
            have Hcl2 : Hid (Pl.Closed T G2) := hMkd.closed Hcl.out
            have hcc := hMkd.cnt
            have hcle := Pl.cntG_le G2 T.length
            rw [HD.out] at hcc hcle
            have hn2 : n2 ≤ left := by have := HC.out; omega
            have HC2 : Hid ((left - n2) + Pl.cntG G2 D = D) := by show _ = _; have := HC.out; omega
            clear HMk hG2 hBt2 hMkd hcc hcle
            go_wp2
            go_roundg (t.size - (i + 1))
            case measure => rw [Hg.out]; omega
            case rel => exact ⟨i + 1, s', G2, left - n2, by omega, hs'S, by omega, rfl, by go_num, rfl, by go_num, HC2, HG2, HBt5, HF2, Hps, Hcl2⟩
      · have HFin : Hid (∀ d, d < T.length → (G d = true ↔ Pl.occ (Pl.Txt T d) t.data.toList = true)) := by
          by_cases hit : i < t.size
          · have hl0 : left = 0 := by omega
            refine HFI.out.full (by rw [HTl.out]; exact hi) ?_
            have := HC.out
            rw [hl0] at this
            rw [HD.out]; omega
          · have ei : i = t.data.toList.length := by rw [HTl.out]; omega
            have h := HFI.out
            rw [ei] at h
            exact h.fin
        obtain ⟨fr, hfr⟩ := HGr2.out
        have hgr2 : wr.rowIs gr 40 2 fr := HBt.out.row hgrb hfr
        have hq2 : wr.rowIs gq 40 2 (fcell gd N gb W) := HBt.out.row hqb HQ.out
        have hq0 : wr.cell? ⟨gq, 0, none⟩ = some (.slice (some ⟨gd, 0, none⟩) N N) := hq2.cell (by omega)
        have hq1 : wr.cell? ⟨gq, 1, none⟩ = some (.slice (some ⟨gb, 0, none⟩) W W) := hq2.cell (by omega)
        obtain ⟨u0, hr0⟩ : ∃ v, wr.cell? ⟨gr, 0, none⟩ = some v := ⟨_, hgr2.cell (by omega)⟩
        have hf0 := hgr2.frozen 0
        obtain ⟨u1, hr1⟩ : ∃ v, ∀ u, (wr.setCell ⟨gr, 0, none⟩ u).cell? ⟨gr, 1, none⟩ = some v := ⟨_, fun u => (hgr2.set 0 u).cell (by omega)⟩
        have hf1 : ∀ u, (wr.setCell ⟨gr, 0, none⟩ u).frozen? ⟨gr, 1, none⟩ = false := fun u => (hgr2.set 0 u).frozen 1
        have HEnd : Hid (∀ (a b : Value), (((wr.setCell ⟨gr, 0, none⟩ a).setCell ⟨gr, 1, none⟩ b).cell? ⟨gr, 0, none⟩ = some a ∧ ((wr.setCell ⟨gr, 0, none⟩ a).setCell ⟨gr, 1, none⟩ b).cell? ⟨gr, 1, none⟩ = some b)) := by
          intro a b
          have h := (hgr2.set 0 a).set 1 b
          exact ⟨by rw [h.cell (i := 0) (by omega)]; rfl, by rw [h.cell (i := 1) (by omega)]; rfl⟩
        have hgo' : i < t.size → left = 0 := by omega
        have HG9 : Hid (∀ (a b : Value), ((wr.setCell ⟨gr, 0, none⟩ a).setCell ⟨gr, 1, none⟩ b).rowIs gb 56 W (wcell G)) := fun a b => (HG.out.setOther (by show gb ≠ gr; omega) a).setOther (by show gb ≠ gr; omega) b
        have HB9 : Hid (∀ (a b : Value), Below w.heap.size w ((wr.setCell ⟨gr, 0, none⟩ a).setCell ⟨gr, 1, none⟩ b)) := fun a b =>
          ((hbel2.trans (HBt.out.below hwb hbel2.size)).setCell (p := ⟨gr, 0, none⟩) hgr a).setCell (p := ⟨gr, 1, none⟩) hgr b
        clear hfr hgr2 hq2 hgo
        by_cases h9 : i < t.size
        · have e0 : left = 0 := hgo' h9
          subst e0
          clear hgo'
          go_wp2
          refine bodyPost_ret (v := .agg #[.slice (some ⟨gd, 0, none⟩) N N, .slice (some ⟨gb, 0, none⟩) W W]) (results_cell1 Try.results16 _ _ _ _ _ rfl (load40 _ gr _ _ (HEnd.out _ _).1 (HEnd.out _ _).2)) rfl ?_
          exact ⟨gb, W, G, rfl, HG9.out _ _, (by rw [HD.out]; exact hW1), HFin.out, hwb, HB9.out _ _⟩
        · clear hgo'
          go_wp2
          refine bodyPost_ret (v := .agg #[.slice (some ⟨gd, 0, none⟩) N N, .slice (some ⟨gb, 0, none⟩) W W]) (results_cell1 Try.results16 _ _ _ _ _ rfl (load40 _ gr _ _ (HEnd.out _ _).1 (HEnd.out _ _).2)) rfl ?_
          exact ⟨gb, W, G, rfl, HG9.out _ _, (by rw [HD.out]; exact hW1), HFin.out, hwb, HB9.out _ _⟩
end Go.Proofs.Qxb6001318a
