/-
  THE WALK of mark.
-/
import Derived.Test.Qxb6001318aHas
namespace Go.Proofs.Qxb6001318a
open Go.RowKit
set_option linter.unusedSimpArgs false
set_option linter.unusedVariables false

/-- Of what there was, nothing but block g has turned. -/
structure But (g : Nat) (w w' : World) : Prop where
  os : w'.os = w.os
  tape : w'.tape = w.tape
  output : w'.output = w.output
  size : w.heap.size ≤ w'.heap.size
  block : ∀ k, k < w.heap.size → k ≠ g → w'.heap[k]? = w.heap[k]?

theorem But.refl (g : Nat) (w : World) : But g w w := ⟨rfl, rfl, rfl, Nat.le_refl _, fun _ _ _ => rfl⟩
theorem But.trans {g : Nat} {a b c : World} (h : But g a b) (k : But g b c) : But g a c :=
  ⟨k.os.trans h.os, k.tape.trans h.tape, k.output.trans h.output, Nat.le_trans h.size k.size, fun x h1 h2 => (k.block x (Nat.lt_of_lt_of_le h1 h.size) h2).trans (h.block x h1 h2)⟩
theorem But.of_below {g : Nat} {w w' : World} (h : Below w.heap.size w w') : But g w w' := ⟨h.os, h.tape, h.output, h.size, fun k hk _ => h.block k hk⟩
theorem But.of_only {g : Nat} {w w' : World} (h : Only g w w') : But g w w' := ⟨h.os, h.tape, h.output, Nat.le_of_eq h.size.symm, fun k _ hk => h.block k hk⟩
theorem But.drewN {g : Nat} {w w' : World} (h : But g w w') (n : Nat) : But g w (w'.drewN n) := ⟨h.os, h.tape, h.output, h.size, h.block⟩
theorem But.row {g b : Nat} {w w' : World} {t : TypeId} {n : Nat} {f : Nat → Value} (h : But g w w') (hb : b ≠ g) (hr : w.rowIs b t n f) : w'.rowIs b t n f := hr.of_block (h.block b hr.lt hb)
theorem But.below {g B : Nat} {w w' : World} (h : But g w w') (hB : B ≤ g) (hs : B ≤ w.heap.size) : Below B w w' := ⟨h.os, h.tape, h.output, h.size, fun k hk => h.block k (by omega) (by omega)⟩

/-- Rows of two types are two blocks. -/
theorem row_ne {w : World} {b b' : Nat} {t t' : TypeId} {n n' : Nat} {f f' : Nat → Value} (h : w.rowIs b t n f) (h' : w.rowIs b' t' n' f') (ht : t ≠ t') : b ≠ b' := by
  rintro rfl
  obtain ⟨c, hc, _⟩ := h
  obtain ⟨c', hc', _⟩ := h'
  rw [hc] at hc'
  simp at hc'
  exact ht hc'.2

theorem MMem.but {gm gl gf gF gO ge gd S D N gb W : Nat} {lab : Nat → UInt8} {fst F : Nat → Nat} {O : Nat → Int} {Rv : Array Value} {R en Dn : Nat → Nat} {f : Nat → Value} {w w' : World} (h : MMem gm gl gf gF gO ge gd S D N lab fst F O Rv R en Dn w) (hb : w.rowIs gb 56 W f) (k : But gb w w') : MMem gm gl gf gF gO ge gd S D N lab fst F O Rv R en Dn w' :=
  ⟨k.row (row_ne h.rm hb (by decide)) h.rm, h.root, k.row (row_ne h.rl hb (by decide)) h.rl, k.row (row_ne h.rf hb (by decide)) h.rf, k.row (row_ne h.rF hb (by decide)) h.rF, k.row (row_ne h.rO hb (by decide)) h.rO, k.row (row_ne h.re hb (by decide)) h.re, k.row (row_ne h.rd hb (by decide)) h.rd⟩

/-- A Found's cells. -/
def fcell (gd N gb W j : Nat) : Value := if j = 0 then .slice (some ⟨gd, 0, none⟩) N N else .slice (some ⟨gb, 0, none⟩) W W

/-- What mark leaves. -/
def MarkPost (w : World) (T : List ByteArray) (G0 : Nat → Bool) (o0 : Option Nat) (gb W : Nat) (e : Ending) (w' : World) : Prop :=
  ∃ (G : Nat → Bool) (n : Nat), e = .returned (.int .i64 (n : Int)) ∧ w'.rowIs gb 56 W (wcell G) ∧ But gb w w' ∧ Pl.Mkd T G0 o0 G n

set_option maxRecDepth 100000 in
set_option maxHeartbeats 1000000 in
theorem mark_any {T : List ByteArray} {L : List (List UInt8)} {par : Nat → Nat} {lab : Nat → UInt8} {F : Nat → Nat} {O : Nat → Int} {Rv : Array Value} {R en Dn : Nat → Nat} (gm gl gf gF gO ge gd S D N gq gb W : Nat) (w : World) (G0 : Nat → Bool) (o0 : Option Nat)
    (hM : MMem gm gl gf gF gO ge gd S D N lab (Pl.fstC par S) F O Rv R en Dn w) (hI : Pl.MI T L par lab F O R en) (hL : L.length = S) (hS : S ≤ 1048577) (hD : T.length = D) (hDb : D ≤ 65536) (hsrt : Pl.Srt T)
    (hq : w.rowIs gq 40 2 (fcell gd N gb W)) (hb : w.rowIs gb 56 W (wcell G0)) (hW : D ≤ 64 * W) (hcl : Pl.Closed T G0) (ho : ∀ d, o0 = some d → d < T.length) :
    Calls Try.prog 24 #[.pointer (some ⟨gm, 0, none⟩), .pointer (some ⟨gq, 0, none⟩), .int .i32 (Pl.oi o0)] w (MarkPost w T G0 o0 gb W) := by
  have HM : Hid _ := hM
  have HI : Hid _ := hI
  have HL : Hid _ := hL
  have HD : Hid _ := hD
  have Hsrt : Hid (Pl.Srt T) := hsrt
  have HQ : Hid (w.rowIs gq 40 2 (fcell gd N gb W)) := hq
  have HB : Hid (w.rowIs gb 56 W (wcell G0)) := hb
  have Hcl : Hid (Pl.Closed T G0) := hcl
  have Hst : Hid (Pl.MkI T G0 o0 G0 o0 0) := Pl.MkI.start ho
  have hqb : gq ≠ gb := row_ne hq hb (by decide)
  clear hM hI hL hD hsrt hq hb hcl ho
  go_enter Try.func24, Try.ntmps24
  go_upto_region 2 with fail
  go_wp2_with fail
  go_loopg [2, 7] (D - Pl.cntG G0 D) (fun g v2 v7 wk => ∃ (o : Option Nat) (G : Nat → Bool) (n : Nat), Hid (g = D - Pl.cntG G D) ∧ v2 = .int .i32 (Pl.oi o) ∧ v7 = .int .i64 (n : Int) ∧ n ≤ 65536 ∧ Hid (wk.rowIs gb 56 W (wcell G)) ∧ Hid (But gb w wk) ∧ Hid (Pl.MkI T G0 o0 G o n))
  case atStart => exact ⟨o0, G0, 0, rfl, rfl, rfl, by omega, HB, But.refl _ _, Hst⟩
  case round =>
    clear Hst
    obtain ⟨o, G, n, Hg, rfl, rfl, hn, HG, HBt, HK⟩ := hrel
    cases o with
    | none =>
      have e : Pl.oi none = -1 := rfl
      rw [e]
      clear e
      go_wp2
      go_ret
      exact ⟨G, n, rfl, HG.out, HBt.out, HK.out.none⟩
    | some d =>
      have e : Pl.oi (some d) = (d : Int) := rfl
      rw [e]
      clear e
      have hdT : d < T.length := HK.out.olt d rfl
      have hdD : d < D := by rw [← HD.out]; exact hdT
      have hdW : d / 64 < W := by omega
      have hq0 : wr.cell? ⟨gq, 0, none⟩ = some (.slice (some ⟨gd, 0, none⟩) N N) := (HBt.out.row hqb HQ.out).cell (by omega)
      have hq1 : wr.cell? ⟨gq, 1, none⟩ = some (.slice (some ⟨gb, 0, none⟩) W W) := (HBt.out.row hqb HQ.out).cell (by omega)
      have HH : Hid _ := has_any (.slice (some ⟨gd, 0, none⟩) N N) rfl gb W d G wr hdW (by omega) HG.out
      have hd0 : (0 : Int) ≤ (d : Int) := by omega
      clear hdT
      go_wp2_with fail
      refine Calls.mono HH.out ?_
      rintro e w5 ⟨rfl, hb5⟩
      have HG5 : Hid (w5.rowIs gb 56 W (wcell G)) := HG.out.of_block (hb5.block gb HG.out.lt)
      have HBt5 : Hid (But gb w w5) := HBt.out.trans (But.of_below hb5)
      clear HH hb5 hq0 hq1
      generalize hbl : G d = bl
      have HBL : Hid _ := hbl
      clear hbl
      cases bl
      · have HM5 : Hid _ := HM.out.but HB.out HBt5.out
        have hq1 : w5.cell? ⟨gq, 1, none⟩ = some (.slice (some ⟨gb, 0, none⟩) W W) := (HBt5.out.row hqb HQ.out).cell (by omega)
        obtain ⟨y, Hy⟩ : ∃ y : Int, Hid (y = ((Pl.word G (d / 64) : Nat) : Int)) := ⟨_, rfl⟩
        have hcb : w5.cell? ⟨gb, d / 64, none⟩ = some (.int .u64 y) := by rw [Hy.out]; exact HG5.out.cell hdW
        have hfb := HG5.out.frozen (d / 64)
        have h1 : (0 : Int) ≤ (d : Int) / 64 := by omega
        have h2 : (d : Int) / 64 < (W : Int) := by omega
        have h3 : (0 : Int) ≤ (d : Int) % 64 := by omega
        have h4 : ¬ (d : Int) % 64 < 0 := by omega
        have h5 : (d : Int) % 64 < 64 := by omega
        go_upto_region 3 with fail
        go_region
        obtain ⟨w6, Hw6⟩ : ∃ w6, Hid (w6 = (w5.setCell ⟨gb, d / 64, none⟩ (.int .u64 (bits .or .u64 y (IntKind.u64.wrap ((2 : Int) ^ (d % 64)))))).drew) := ⟨_, rfl⟩
        rw [← Hw6.out]
        have HG6 : Hid (w6.rowIs gb 56 W (wcell (Pl.setF G d))) := by
          have h := (set_row (i := d) HG5.out).drew
          rw [← Hy.out, ← Hw6.out] at h
          exact h
        have HBt6 : Hid (But gb w w6) := by
          have h := HBt5.out.trans (But.of_only (only_set w5 gb (d / 64) (.int .u64 (bits .or .u64 y (IntKind.u64.wrap ((2 : Int) ^ (d % 64)))))).drew)
          rw [← Hw6.out] at h
          exact h
        have HM6 : Hid _ := HM.out.but HB.out HBt6.out
        clear HM5 hq1 hcb hfb h1 h2 h3 h4 h5 HBt5 HG5 Hw6 Hy
        have hdT : d < T.length := by rw [HD.out]; exact hdD
        have HEn : Hid _ := HI.out.en d hdT
        obtain ⟨e1, He1⟩ : ∃ e1, Hid (en d = e1) := ⟨_, rfl⟩
        have he1 : e1 < S := by rw [← He1.out, ← HL.out]; exact HEn.out.1
        have HFl : Hid _ := HI.out.fail e1 (by rw [HL.out]; exact he1)
        obtain ⟨f1, Hf1⟩ : ∃ f1, Hid (F e1 = f1) := ⟨_, rfl⟩
        have hf1 : f1 < S := by rw [← Hf1.out, ← HL.out]; exact HFl.out.1
        obtain ⟨o', Ho1, Ho2⟩ : ∃ o', Hid (Pl.IsOut T (Pl.flink (Pl.PP T) (Pl.Txt T d)) o') ∧ Hid (O f1 = Pl.oi o') := by
          obtain ⟨o', h1, h2⟩ := HI.out.out f1 (by rw [HL.out]; exact hf1)
          refine ⟨o', ?_, h2⟩
          rw [← Hf1.out, HFl.out.2, ← He1.out, HEn.out.2] at h1
          exact h1
        have HK2 : Hid (Pl.MkI T G0 o0 (Pl.setF G d) o' (n + 1)) := HK.out.step Hsrt.out HBL.out Ho1.out
        have hcnt := HK2.out.cnt
        have hcle := Pl.cntG_le (Pl.setF G d) T.length
        have hc1 := Pl.cntG_set G d HBL.out T.length hdT
        rw [HD.out] at hcnt hcle hc1
        have HC : Hid (Pl.cntG (Pl.setF G d) D = Pl.cntG G D + 1 ∧ Pl.cntG (Pl.setF G d) D ≤ D) := ⟨hc1, hcle⟩
        have hn1 : n + 1 ≤ 65536 := by omega
        have hm3 : w6.cell? ⟨gm, 3, none⟩ = some (.slice (some ⟨gO, 0, none⟩) S S) := HM6.out.rm.cell (by omega)
        have hm2 : w6.cell? ⟨gm, 2, none⟩ = some (.slice (some ⟨gF, 0, none⟩) S S) := HM6.out.rm.cell (by omega)
        have hm5 : w6.cell? ⟨gm, 260, none⟩ = some (.slice (some ⟨ge, 0, none⟩) D D) := HM6.out.rm.cell (by omega)
        have hce : w6.cell? ⟨ge, d, none⟩ = some (.int .i32 (e1 : Int)) := by rw [← He1.out]; exact HM6.out.re.cell hdD
        have hcF : w6.cell? ⟨gF, e1, none⟩ = some (.int .i32 (f1 : Int)) := by rw [← Hf1.out]; exact HM6.out.rF.cell he1
        have hcO : w6.cell? ⟨gO, f1, none⟩ = some (.int .i32 (Pl.oi o')) := by rw [← Ho2.out]; exact HM6.out.rO.cell hf1
        clear hcnt hcle hc1 hdT
        go_upto_region 5 with fail
        go_quiet (fail)
        rename Nat => n1
        go_wp2
        go_roundg (D - Pl.cntG (Pl.setF G d) D)
        case measure => rw [Hg.out]; have := HC.out; omega
        case rel => exact ⟨o', Pl.setF G d, n + 1, rfl, rfl, by go_num, hn1, row_drewN HG6.out n1, HBt6.out.drewN n1, HK2⟩
      · go_wp2
        go_ret
        exact ⟨G, n, rfl, HG5.out, HBt5.out, HK.out.halted Hsrt.out Hcl.out HBL.out⟩
end Go.Proofs.Qxb6001318a
