/-
  THE WALK of lay.
-/
import Derived.Test.Qxb6001318aLayPlain
import Derived.Test.Qxb6001318aDist
import Derived.Test.Qxb6001318aChild
import Derived.Deep.RegionHeld3
namespace Go.Proofs.Qxb6001318a
open Go.RowKit
set_option linter.unusedSimpArgs false
set_option linter.unusedVariables false

theorem info5 : (Try.prog.info? 5).map (fun i => (i.zero, i.size, i.bytes)) = some (some (.int .u8 0), 1, 1) := by kernel_rfl

/-- A cell of a row of signed 32-bit numbers. -/
def icell (D : Nat → Int) (j : Nat) : Value := .int .i32 (D j)

theorem new_cell (w : World) (h : Nat) (v : Value) (t : TypeId) (e : h = w.heap.size) : (w.alloc (.cells #[v] t)).cell? ⟨h, 0, none⟩ = some v := by
  subst e; exact new_one w 0 v t

/-- A cell of the row of parents. -/
def qcell (par : Nat → Nat) (j : Nat) : Value := .int .i32 (if j = 0 then -1 else (par j : Int))

/-- The Matcher's cells. -/
def mfn (gl go ge n S N : Nat) (zf : Nat → Value) (j : Nat) : Value :=
  if j = 0 then .slice (some ⟨gl, 0, none⟩) n S else if j = 3 then .slice (some ⟨go, 0, none⟩) n S else if j = 260 then .slice (some ⟨ge, 0, none⟩) N N else zf j

theorem icell_upd (D : Nat → Int) (x : Nat) (v : Int) (j : Nat) : (if j = x then Value.int .i32 v else icell D j) = icell (fun i => if i = x then v else D i) j := by
  unfold icell
  by_cases e : j = x
  · subst e; simp
  · simp [e]
theorem dcell_upd (D : Nat → Nat) (x v : Nat) (j : Nat) : (if j = x then Value.int .i32 (v : Int) else dcell D j) = dcell (fun i => if i = x then v else D i) j := by
  unfold dcell
  by_cases e : j = x
  · subst e; simp
  · simp [e]
theorem bcell_upd (D : Nat → UInt8) (x : Nat) (v : UInt8) (j : Nat) : (if j = x then Value.int .u8 (v.toNat : Int) else bcell D j) = bcell (fun i => if i = x then v else D i) j := by
  unfold bcell
  by_cases e : j = x
  · subst e; simp
  · simp [e]
theorem qcell_upd (D : Nat → Nat) (x v : Nat) (hx : x ≠ 0) (j : Nat) : (if j = x then Value.int .i32 (v : Int) else qcell D j) = qcell (fun i => if i = x then v else D i) j := by
  unfold qcell
  by_cases e : j = x
  · subst e; simp [hx]
  · simp [e]
theorem mfn_upd (gl go ge n S N : Nat) (zf : Nat → Value) (j : Nat) : (if j = 3 then Value.slice (some ⟨go, 0, none⟩) (n + 1) S else if j = 0 then Value.slice (some ⟨gl, 0, none⟩) (n + 1) S else mfn gl go ge n S N zf j) = mfn gl go ge (n + 1) S N zf j := by
  unfold mfn
  by_cases e0 : j = 0
  · subst e0; rfl
  by_cases e1 : j = 3
  · subst e1; rfl
  simp [e0, e1]

/-- The memory that lay works in. -/
structure LMem (gm gl go ge gp gv ga S N : Nat) (mf fl fo fe fp fv fa : Nat → Value) (w : World) : Prop where
  rm : w.rowIs gm 49 262 mf
  rl : w.rowIs gl 5 S fl
  ro : w.rowIs go 21 S fo
  re : w.rowIs ge 21 N fe
  rp : w.rowIs gp 21 S fp
  rv : w.rowIs gv 21 N fv
  ra : w.rowIs ga 21 N fa
  ord : gm < gl ∧ gl < go ∧ go < ge ∧ ge < gp ∧ gp < gv ∧ gv < ga

section
variable {gm gl go ge gp gv ga S N : Nat} {mf fl fo fe fp fv fa : Nat → Value} {w : World}
theorem LMem.alloc (h : LMem gm gl go ge gp gv ga S N mf fl fo fe fp fv fa w) (o : Obj) : LMem gm gl go ge gp gv ga S N mf fl fo fe fp fv fa (w.alloc o) :=
  ⟨h.rm.alloc o, h.rl.alloc o, h.ro.alloc o, h.re.alloc o, h.rp.alloc o, h.rv.alloc o, h.ra.alloc o, h.ord⟩
theorem LMem.drewN (h : LMem gm gl go ge gp gv ga S N mf fl fo fe fp fv fa w) (n : Nat) : LMem gm gl go ge gp gv ga S N mf fl fo fe fp fv fa (w.drewN n) :=
  ⟨row_drewN h.rm n, row_drewN h.rl n, row_drewN h.ro n, row_drewN h.re n, row_drewN h.rp n, row_drewN h.rv n, row_drewN h.ra n, h.ord⟩
theorem LMem.setM (h : LMem gm gl go ge gp gv ga S N mf fl fo fe fp fv fa w) (x : Nat) (v : Value) : LMem gm gl go ge gp gv ga S N (fun j => if j = x then v else mf j) fl fo fe fp fv fa (w.setCell ⟨gm, x, none⟩ v) := by
  have o := h.ord
  exact ⟨h.rm.set x v, h.rl.setOther (by show _ ≠ gm; omega) v, h.ro.setOther (by show _ ≠ gm; omega) v, h.re.setOther (by show _ ≠ gm; omega) v, h.rp.setOther (by show _ ≠ gm; omega) v, h.rv.setOther (by show _ ≠ gm; omega) v, h.ra.setOther (by show _ ≠ gm; omega) v, o⟩
theorem LMem.setO (h : LMem gm gl go ge gp gv ga S N mf fl fo fe fp fv fa w) (x : Nat) (v : Value) : LMem gm gl go ge gp gv ga S N mf fl (fun j => if j = x then v else fo j) fe fp fv fa (w.setCell ⟨go, x, none⟩ v) := by
  have o := h.ord
  exact ⟨h.rm.setOther (by show _ ≠ go; omega) v, h.rl.setOther (by show _ ≠ go; omega) v, h.ro.set x v, h.re.setOther (by show _ ≠ go; omega) v, h.rp.setOther (by show _ ≠ go; omega) v, h.rv.setOther (by show _ ≠ go; omega) v, h.ra.setOther (by show _ ≠ go; omega) v, o⟩
theorem LMem.setE (h : LMem gm gl go ge gp gv ga S N mf fl fo fe fp fv fa w) (x : Nat) (v : Value) : LMem gm gl go ge gp gv ga S N mf fl fo (fun j => if j = x then v else fe j) fp fv fa (w.setCell ⟨ge, x, none⟩ v) := by
  have o := h.ord
  exact ⟨h.rm.setOther (by show _ ≠ ge; omega) v, h.rl.setOther (by show _ ≠ ge; omega) v, h.ro.setOther (by show _ ≠ ge; omega) v, h.re.set x v, h.rp.setOther (by show _ ≠ ge; omega) v, h.rv.setOther (by show _ ≠ ge; omega) v, h.ra.setOther (by show _ ≠ ge; omega) v, o⟩
theorem LMem.setV (h : LMem gm gl go ge gp gv ga S N mf fl fo fe fp fv fa w) (x : Nat) (v : Value) : LMem gm gl go ge gp gv ga S N mf fl fo fe fp (fun j => if j = x then v else fv j) fa (w.setCell ⟨gv, x, none⟩ v) := by
  have o := h.ord
  exact ⟨h.rm.setOther (by show _ ≠ gv; omega) v, h.rl.setOther (by show _ ≠ gv; omega) v, h.ro.setOther (by show _ ≠ gv; omega) v, h.re.setOther (by show _ ≠ gv; omega) v, h.rp.setOther (by show _ ≠ gv; omega) v, h.rv.set x v, h.ra.setOther (by show _ ≠ gv; omega) v, o⟩
theorem LMem.setA (h : LMem gm gl go ge gp gv ga S N mf fl fo fe fp fv fa w) (x : Nat) (v : Value) : LMem gm gl go ge gp gv ga S N mf fl fo fe fp fv (fun j => if j = x then v else fa j) (w.setCell ⟨ga, x, none⟩ v) := by
  have o := h.ord
  exact ⟨h.rm.setOther (by show _ ≠ ga; omega) v, h.rl.setOther (by show _ ≠ ga; omega) v, h.ro.setOther (by show _ ≠ ga; omega) v, h.re.setOther (by show _ ≠ ga; omega) v, h.rp.setOther (by show _ ≠ ga; omega) v, h.rv.setOther (by show _ ≠ ga; omega) v, h.ra.set x v, o⟩
theorem LMem.onlyL {w' : World} {fl' : Nat → Value} (h : LMem gm gl go ge gp gv ga S N mf fl fo fe fp fv fa w) (k : Only gl w w') (hr : w'.rowIs gl 5 S fl') : LMem gm gl go ge gp gv ga S N mf fl' fo fe fp fv fa w' := by
  have o := h.ord
  exact ⟨k.row (by omega) h.rm, hr, k.row (by omega) h.ro, k.row (by omega) h.re, k.row (by omega) h.rp, k.row (by omega) h.rv, k.row (by omega) h.ra, o⟩
theorem LMem.onlyO {w' : World} {fo' : Nat → Value} (h : LMem gm gl go ge gp gv ga S N mf fl fo fe fp fv fa w) (k : Only go w w') (hr : w'.rowIs go 21 S fo') : LMem gm gl go ge gp gv ga S N mf fl fo' fe fp fv fa w' := by
  have o := h.ord
  exact ⟨k.row (by omega) h.rm, k.row (by omega) h.rl, hr, k.row (by omega) h.re, k.row (by omega) h.rp, k.row (by omega) h.rv, k.row (by omega) h.ra, o⟩
theorem LMem.onlyP {w' : World} {fp' : Nat → Value} (h : LMem gm gl go ge gp gv ga S N mf fl fo fe fp fv fa w) (k : Only gp w w') (hr : w'.rowIs gp 21 S fp') : LMem gm gl go ge gp gv ga S N mf fl fo fe fp' fv fa w' := by
  have o := h.ord
  exact ⟨k.row (by omega) h.rm, k.row (by omega) h.rl, k.row (by omega) h.ro, k.row (by omega) h.re, hr, k.row (by omega) h.rv, k.row (by omega) h.ra, o⟩
theorem LMem.congr {mf' fl' fo' fe' fp' fv' fa' : Nat → Value} (h : LMem gm gl go ge gp gv ga S N mf fl fo fe fp fv fa w) (hm : ∀ j, mf j = mf' j) (hl : ∀ j, fl j = fl' j) (ho : ∀ j, fo j = fo' j) (he : ∀ j, fe j = fe' j) (hp : ∀ j, fp j = fp' j) (hv : ∀ j, fv j = fv' j) (ha : ∀ j, fa j = fa' j) :
    LMem gm gl go ge gp gv ga S N mf' fl' fo' fe' fp' fv' fa' w := by
  rw [← funext hm, ← funext hl, ← funext ho, ← funext he, ← funext hp, ← funext hv, ← funext ha]; exact h
end

theorem Only.drew {g : Nat} {w w' : World} (h : Only g w w') : Only g w w'.drew := ⟨h.os, h.tape, h.output, h.size, h.block⟩

/-- What lay leaves. -/
def LayPost (w : World) (T : List ByteArray) (gm N S : Nat) (e : Ending) (w' : World) : Prop :=
  ∃ (gl go ge gp gf : Nat) (L : List (List UInt8)) (par : Nat → Nat) (lab : Nat → UInt8) (out : Nat → Int) (en : Nat → Nat) (mf : Nat → Value),
    e = .returned (.slice (some ⟨gp, 0, none⟩) S S) ∧ w'.rowIs gm 49 262 mf ∧ mf 0 = .slice (some ⟨gl, 0, none⟩) S S ∧ mf 1 = .slice (some ⟨gf, 0, none⟩) (S + 1) (S + 1) ∧ mf 3 = .slice (some ⟨go, 0, none⟩) S S ∧ mf 260 = .slice (some ⟨ge, 0, none⟩) N N ∧
    w'.rowIs gl 5 S (bcell lab) ∧ w'.rowIs gf 21 (S + 1) (dcell (Pl.fstC par S)) ∧ w'.rowIs go 21 S (icell out) ∧ w'.rowIs ge 21 N (dcell en) ∧ w'.rowIs gp 21 S (qcell par) ∧
    (gm < gl ∧ gl < go ∧ go < ge ∧ ge < gp ∧ gp < gf) ∧ Below gm w w' ∧ Pl.LE T L par lab out en

set_option maxRecDepth 100000 in
set_option maxHeartbeats 1000000 in
theorem lay_any (gm gx N capx S : Nat) (T : List ByteArray) (zf : Nat → Value) (w : World) (hT : T.length = N) (hN : N ≤ 65536) (hNc : N ≤ capx) (hsz : ∀ i, i < N → (T.getD i ⟨#[]⟩).size ≤ 1048576) (hS : S = 1 + Pl.cnt [] T) (hS2 : S ≤ 1048577) (hs : Pl.Srt T)
    (hrx : w.rowIs gx 9 capx (ycell T)) (hrm : w.rowIs gm 49 262 zf) (hxm : gx < gm) :
    Calls Try.prog 22 #[.pointer (some ⟨gm, 0, none⟩), .slice (some ⟨gx, 0, none⟩) N capx, .int .i64 (S : Int)] w (LayPost w T gm N S) := by
  have hmk1 := make_room (P := Try.prog) 29 5 (.int .u8 0) 1 Try.underlying29 info5 rfl S (by omega) (by unfold maxLen; omega)
  have hmk2 := make_room (P := Try.prog) 26 21 (.int .i32 0) 4 Try.underlying26 info21 rfl S (by omega) (by unfold maxLen; omega)
  have hmk3 := run_make_row' (P := Try.prog) 26 21 (.int .i32 0) 4 Try.underlying26 info21 rfl .i64 .i64 N (by omega) (by omega)
  have HT : Hid _ := hT
  have hS1 : 1 ≤ S := by omega
  have HSe : Hid _ := hS
  have Hs : Hid (Pl.Srt T) := hs
  have Hsz : Hid _ := hsz
  have Hrx : Hid (w.rowIs gx 9 capx (ycell T)) := hrx
  clear hT hS hs hsz hrx
  have hgm := hrm.lt
  go_enter Try.func22, Try.ntmps22
  have hfm := hrm.frozen 0
  obtain ⟨v0, hcm⟩ : ∃ v, w.cell? ⟨gm, 0, none⟩ = some v := ⟨_, hrm.cell (by omega)⟩
  go_upto_region 2 with (at_builtin; refine wpList_append_one rfl _ _ 29 rfl 5 _ 1 Try.underlying29 info5 w.heap.size 0 S (w.heap.size + 1) _ (.int .u8 0) rfl rfl ((World.rowIs_made w _ S 5).alloc _) (by omega) (new_cell _ _ _ 5 (by simp)) rfl ?_; intro w6 hrl6 ho6; have hrm6 := ho6.row (Nat.ne_of_lt hgm) ((hrm.alloc (.cells (madeCells #[.int .u8 0] S) 5)).alloc (.cells #[.int .u8 0] 5)); have hfm6 := hrm6.frozen 0; obtain ⟨v6, hcm6⟩ : ∃ v, w6.cell? ⟨gm, 0, none⟩ = some v := ⟨_, hrm6.cell (by omega)⟩)
  obtain ⟨w1, gl, Hw1⟩ : ∃ (w1 : World) (gl : Nat), Hid (w1 = w6.setCell ⟨gm, 0, none⟩ (.slice (some ⟨w.heap.size, 0, none⟩) 1 S) ∧ gl = w.heap.size) := ⟨_, _, rfl, rfl⟩
  rw [← Hw1.out.1]
  have hrm1 : w1.rowIs gm 49 262 (fun j => if j = 0 then .slice (some ⟨gl, 0, none⟩) 1 S else zf j) := by rw [Hw1.out.1, Hw1.out.2]; exact hrm6.set 0 _
  have hrl1 : w1.rowIs gl 5 S (bcell fun _ => 0) := by
    rw [Hw1.out.1, Hw1.out.2]; exact (hrl6.congr fun j _ => by show (if _ then _ else _) = _; split <;> rfl).setOther (by show _ ≠ gm; omega) _
  have hbel1 : Below gm w w1 := by rw [Hw1.out.1]; exact (((Below.refl _ w).alloc (Nat.le_of_lt hgm) _).alloc (by simp; omega) _).trans ((ho6.below (Nat.le_of_lt hgm)).setCell (p := ⟨gm, 0, none⟩) (Nat.le_refl _) _)
  have hml : gm < gl := by rw [Hw1.out.2]; exact hgm
  have hgl := hrl1.lt
  clear Hw1 ho6 hrm6 hfm6 hcm6 hrl6 hrm hcm hfm v6 v0 hmk1 w6
  have hfm := hrm1.frozen 3
  obtain ⟨v0, hcm⟩ : ∃ v, w1.cell? ⟨gm, 3, none⟩ = some v := ⟨_, hrm1.cell (by omega)⟩
  go_upto_region 3 with (at_builtin; refine wpList_append_one rfl _ _ 26 rfl 21 _ 4 Try.underlying26 info21 w1.heap.size 0 S (w1.heap.size + 1) _ (.int .i32 (-1)) rfl rfl ((World.rowIs_made w1 _ S 21).alloc _) (by omega) (new_cell _ _ _ 21 (by simp)) rfl ?_; intro w6 hro6 ho6; have hrm6 := ho6.row (by omega) ((hrm1.alloc (.cells (madeCells #[.int .i32 0] S) 21)).alloc (.cells #[.int .i32 (-1)] 21)); have hfm6 := hrm6.frozen 3; obtain ⟨v6, hcm6⟩ : ∃ v, w6.cell? ⟨gm, 3, none⟩ = some v := ⟨_, hrm6.cell (by omega)⟩)
  obtain ⟨w2, go, Hw2⟩ : ∃ (w2 : World) (go : Nat), Hid (w2 = w6.setCell ⟨gm, 3, none⟩ (.slice (some ⟨w1.heap.size, 0, none⟩) 1 S) ∧ go = w1.heap.size) := ⟨_, _, rfl, rfl⟩
  rw [← Hw2.out.1]
  have hrm2 : w2.rowIs gm 49 262 (fun j => if j = 3 then .slice (some ⟨go, 0, none⟩) 1 S else if j = 0 then .slice (some ⟨gl, 0, none⟩) 1 S else zf j) := by rw [Hw2.out.1, Hw2.out.2]; exact hrm6.set 3 _
  have hrl2 : w2.rowIs gl 5 S (bcell fun _ => 0) := by rw [Hw2.out.1]; exact (ho6.row (by omega) ((hrl1.alloc _).alloc _)).setOther (by show _ ≠ gm; omega) _
  have hro2 : w2.rowIs go 21 S (icell fun j => if j = 0 then -1 else 0) := by
    rw [Hw2.out.1, Hw2.out.2]; exact (hro6.congr fun j _ => by show (if _ then _ else _) = Value.int .i32 (if _ then _ else _); split <;> rfl).setOther (by show _ ≠ gm; omega) _
  have hbel2 : Below gm w w2 := by rw [Hw2.out.1]; exact ((hbel1.alloc (by omega) _).alloc (by simp; omega) _).trans ((ho6.below (B := gm) (by omega)).setCell (p := ⟨gm, 3, none⟩) (Nat.le_refl _) _)
  have hlo : gl < go := by rw [Hw2.out.2]; exact hgl
  have hgo := hro2.lt
  clear Hw2 ho6 hrm6 hfm6 hcm6 hro6 hrm1 hrl1 hbel1 hcm hfm v6 v0 w6 hgl
  have hfm : ∀ o, (w2.alloc o).frozen? ⟨gm, 260, none⟩ = false := fun o => (hrm2.alloc o).frozen 260
  obtain ⟨v0, hcm⟩ : ∃ v, ∀ o, (w2.alloc o).cell? ⟨gm, 260, none⟩ = some v := ⟨_, fun o => (hrm2.alloc o).cell (by omega)⟩
  go_upto_region 4 with fail
  obtain ⟨w3, ge, Hw3⟩ : ∃ (w3 : World) (ge : Nat), Hid (w3 = (w2.alloc (.cells (madeCells #[.int .i32 0] N) 21)).setCell ⟨gm, 260, none⟩ (.slice (some ⟨w2.heap.size, 0, none⟩) N N) ∧ ge = w2.heap.size) := ⟨_, _, rfl, rfl⟩
  rw [← Hw3.out.1]
  have hrm3 : w3.rowIs gm 49 262 (mfn gl go ge 1 S N zf) := by
    rw [Hw3.out.1, Hw3.out.2]
    refine ((hrm2.alloc _).set 260 _).congr fun j _ => ?_
    unfold mfn
    by_cases e0 : j = 0
    · subst e0; rfl
    by_cases e1 : j = 3
    · subst e1; rfl
    by_cases e2 : j = 260
    · subst e2; rfl
    simp [e0, e1, e2]
  have hrl3 : w3.rowIs gl 5 S (bcell fun _ => 0) := by rw [Hw3.out.1]; exact (hrl2.alloc _).setOther (by show _ ≠ gm; omega) _
  have hro3 : w3.rowIs go 21 S (icell fun j => if j = 0 then -1 else 0) := by rw [Hw3.out.1]; exact (hro2.alloc _).setOther (by show _ ≠ gm; omega) _
  have hre3 : w3.rowIs ge 21 N (dcell fun _ => 0) := by rw [Hw3.out.1, Hw3.out.2]; exact (World.rowIs_made w2 _ N 21).setOther (by show _ ≠ gm; omega) _
  have hbel3 : Below gm w w3 := by rw [Hw3.out.1]; exact (hbel2.alloc (by omega) _).setCell (p := ⟨gm, 260, none⟩) (Nat.le_refl _) _
  have hoe : go < ge := by rw [Hw3.out.2]; exact hgo
  have hge := hre3.lt
  clear Hw3 hrm2 hrl2 hro2 hbel2 hcm hfm v0 hgo
  go_upto_region 5 with (at_builtin; refine wpList_append_one rfl _ _ 26 rfl 21 _ 4 Try.underlying26 info21 w3.heap.size 0 S (w3.heap.size + 1) _ (.int .i32 (-1)) rfl rfl ((World.rowIs_made w3 _ S 21).alloc _) (by omega) (new_cell _ _ _ 21 (by simp)) rfl ?_; intro w4 hrp6 ho6; have hrm4 := ho6.row (by omega) ((hrm3.alloc (.cells (madeCells #[.int .i32 0] S) 21)).alloc (.cells #[.int .i32 (-1)] 21)))
  obtain ⟨gp, Hgp⟩ : ∃ (gp : Nat), Hid (gp = w3.heap.size) := ⟨_, rfl⟩
  rw [← Hgp.out]
  have hrl4 : w4.rowIs gl 5 S (bcell fun _ => 0) := ho6.row (by omega) ((hrl3.alloc _).alloc _)
  have hro4 : w4.rowIs go 21 S (icell fun j => if j = 0 then -1 else 0) := ho6.row (by omega) ((hro3.alloc _).alloc _)
  have hre4 : w4.rowIs ge 21 N (dcell fun _ => 0) := ho6.row (by omega) ((hre3.alloc _).alloc _)
  have hrp4 : w4.rowIs gp 21 S (icell fun j => if j = 0 then -1 else 0) := by
    rw [Hgp.out]; exact (hrp6.congr fun j _ => by show (if _ then _ else _) = Value.int .i32 (if _ then _ else _); split <;> rfl)
  have hbel4 : Below gm w w4 := ((hbel3.alloc (by omega) _).alloc (by simp; omega) _).trans (ho6.below (by omega))
  have hep : ge < gp := by rw [Hgp.out]; exact hge
  have hgp := hrp4.lt
  clear Hgp ho6 hrp6 hrm3 hrl3 hro3 hre3 hbel3 hge
  go_upto_region 6 with fail
  obtain ⟨w5, gv, Hw5⟩ : ∃ (w5 : World) (gv : Nat), Hid (w5 = w4.alloc (.cells (madeCells #[.int .i32 0] N) 21) ∧ gv = w4.heap.size) := ⟨_, _, rfl, rfl⟩
  rw [← Hw5.out.1, ← Hw5.out.2]
  have hrm5 : w5.rowIs gm 49 262 (mfn gl go ge 1 S N zf) := by rw [Hw5.out.1]; exact hrm4.alloc _
  have hrl5 : w5.rowIs gl 5 S (bcell fun _ => 0) := by rw [Hw5.out.1]; exact hrl4.alloc _
  have hro5 : w5.rowIs go 21 S (icell fun j => if j = 0 then -1 else 0) := by rw [Hw5.out.1]; exact hro4.alloc _
  have hre5 : w5.rowIs ge 21 N (dcell fun _ => 0) := by rw [Hw5.out.1]; exact hre4.alloc _
  have hrp5 : w5.rowIs gp 21 S (icell fun j => if j = 0 then -1 else 0) := by rw [Hw5.out.1]; exact hrp4.alloc _
  have hrv5 : w5.rowIs gv 21 N (dcell fun j => if j < 0 then j else 0) := by rw [Hw5.out.1, Hw5.out.2]; exact World.rowIs_made w4 _ N 21
  have hbel5 : Below gm w w5 := by rw [Hw5.out.1]; exact hbel4.alloc (by omega) _
  have hpv : gp < gv := by rw [Hw5.out.2]; exact hgp
  have hgv := hrv5.lt
  clear Hw5 hrm4 hrl4 hro4 hre4 hrp4 hbel4 hgp
  have HRows : Hid (w5.rowIs gm 49 262 (mfn gl go ge 1 S N zf) ∧ w5.rowIs gl 5 S (bcell fun _ => 0) ∧ w5.rowIs go 21 S (icell fun j => if j = 0 then -1 else 0) ∧ w5.rowIs ge 21 N (dcell fun _ => 0) ∧ w5.rowIs gp 21 S (icell fun j => if j = 0 then -1 else 0)) := ⟨hrm5, hrl5, hro5, hre5, hrp5⟩
  clear hrm5 hrl5 hro5 hre5 hrp5 hmk2
  go_upto_region 7 with fail
  go_wp2_with fail
  go_loopg [51] N (fun gk kv wk => ∃ (k : Nat), k ≤ N ∧ Hid (gk = N - k) ∧ kv = .int .i64 (k : Int) ∧ wk.rowIs gv 21 N (dcell fun j => if j < k then j else 0) ∧ Only gv w5 wk)
  case atStart => exact ⟨0, Nat.zero_le _, rfl, rfl, hrv5, ⟨rfl, rfl, rfl, rfl, fun _ _ => rfl⟩⟩
  case round =>
    clear hrv5
    obtain ⟨k, hk, Hgk, rfl, hrv, hov⟩ := hrel
    by_cases hlt : k < N
    · obtain ⟨v, hcv⟩ : ∃ v, wr.cell? ⟨gv, k, none⟩ = some v := ⟨_, hrv.cell hlt⟩
      have hfv := hrv.frozen k
      go_wp2
      go_roundg (N - (k + 1))
      case measure => rw [Hgk.out]; omega
      case rel =>
        refine ⟨k + 1, by omega, rfl, by go_num, (dcell_set (d := k) hrv (by go_num)).congr fun j _ => ?_, hov.trans (only_set _ _ _ _)⟩
        show Value.int .i32 _ = Value.int .i32 _
        congr 2
        by_cases e : j = k
        · subst e; simp
        · by_cases e2 : j < k
          · have : j < k + 1 := by omega
            simp [e, e2, this]
          · have : ¬ j < k + 1 := by omega
            simp [e, e2, this]
    · have ek : N = k := by omega
      subst ek
      have hgs : gv < wr.heap.size := hrv.lt
      have hbel6 : Below gm w wr := hbel5.trans (hov.below (by omega))
      go_upto_region 13 with fail
      obtain ⟨w7, ga, Hw7⟩ : ∃ (w7 : World) (ga : Nat), Hid (w7 = wr.alloc (.cells (madeCells #[.int .i32 0] N) 21) ∧ ga = wr.heap.size) := ⟨_, _, rfl, rfl⟩
      rw [← Hw7.out.1, ← Hw7.out.2]
      have hbel7 : Below gm w w7 := by rw [Hw7.out.1]; exact hbel6.alloc (by omega) _
      have HM : Hid (LMem gm gl go ge gp gv ga S N (mfn gl go ge 1 S N zf) (bcell fun _ => 0) (icell fun j => if j = 0 then -1 else 0) (dcell fun _ => 0) (qcell fun _ => 0) (dcell fun j => if j < N then j else 0) (dcell fun _ => 0) w7) := by
        obtain ⟨h1, h2, h3, h4, h5⟩ := HRows.out
        show LMem _ _ _ _ _ _ _ _ _ _ _ _ _ _ _ _ _
        rw [Hw7.out.1, Hw7.out.2]
        exact ⟨(hov.row (by omega) h1).alloc _, (hov.row (by omega) h2).alloc _, (hov.row (by omega) h3).alloc _, (hov.row (by omega) h4).alloc _, (hov.row (by omega) h5).alloc _, hrv.alloc _, World.rowIs_made _ _ _ _, hml, hlo, hoe, hep, hpv, hgs⟩
      have HV0 : Hid (N = (Pl.Vd T 0).length) := by show _ = _; unfold Pl.Vd; rw [List.filter_eq_self.2 (by simp), HT.out]; simp
      have HL0 : Hid (1 = (Pl.Lk T 0 0).length) := by show _ = _; unfold Pl.Lk Pl.Lw Pl.below; simp [Pl.lg, Pl.adj_nil]
      have HLI0 : Hid (Pl.LI T 0 0 (fun _ => 0) (fun _ => 0) (fun j => if j = 0 then -1 else 0) (fun _ => 0) (fun j => if j < N then j else 0) (fun _ => 0) (-1) 0) :=
        Pl.LI.start T _ _ _ _ _ _ rfl (fun j hj => if_pos (by rw [← HT.out]; exact hj)) (fun j _ => rfl)
      clear Hw7 hrv hov hgs hbel6 HRows hgv hbel5 hk Hgk hlt
      go_wp2_with fail
      go_loopg [7, 8, 10, 11] 1048578 (fun g v7 v8 v10 v11 wk => ∃ (d n M : Nat) (par : Nat → Nat) (lab : Nat → UInt8) (out : Nat → Int) (en lv at' : Nat → Nat), d ≤ 1048577 ∧ M ≤ N ∧ n ≤ S ∧ Hid (g = 1048578 - d) ∧ v7 = .slice (some ⟨gp, 0, none⟩) n S ∧ v8 = .slice (some ⟨gv, 0, none⟩) M N ∧ v10 = .slice (some ⟨ga, 0, none⟩) M N ∧ v11 = .int .i64 (d : Int) ∧
        Hid (M = (Pl.Vd T d).length) ∧ Hid (n = (Pl.Lk T d 0).length) ∧ Hid (LMem gm gl go ge gp gv ga S N (mfn gl go ge n S N zf) (bcell lab) (icell out) (dcell en) (qcell par) (dcell lv) (dcell at') wk) ∧ Hid (Pl.LI T d 0 par lab out en lv at' (-1) 0) ∧ Below gm w wk)
      case atStart => exact ⟨0, 1, N, _, _, _, _, _, _, by omega, Nat.le_refl _, by omega, rfl, rfl, rfl, rfl, rfl, HV0, HL0, HM, HLI0, hbel7⟩
      case round =>
        clear HM HV0 HL0 HLI0 hbel7
        obtain ⟨d, n, M, par, lab, out, en, lv, at', hd, hM, hn, Hg, rfl, rfl, rfl, rfl, HV, HL, HM, HLI, hbel⟩ := hrel
        by_cases hM0 : 0 < M
        · skip
          go_upto_region 18 with fail
          go_wp2_with fail
          go_loopg [7, 12, 13, 14, 70] M (fun g2 v7 v12 v13 v14 v70 wk => ∃ (k n nn : Nat) (lA : Int) (lB : UInt8) (par : Nat → Nat) (lab : Nat → UInt8) (out : Nat → Int) (en lv at' : Nat → Nat), k ≤ M ∧ n ≤ S ∧ Hid (g2 = M - k) ∧ v7 = .slice (some ⟨gp, 0, none⟩) n S ∧ v12 = .int .i64 (nn : Int) ∧ v13 = .int .i32 lA ∧ v14 = .int .u8 (lB.toNat : Int) ∧ v70 = .int .i64 (k : Int) ∧
            nn ≤ k ∧ Hid (n = (Pl.Lk T d k).length) ∧ Hid (nn = Pl.nk T d k) ∧ Hid (LMem gm gl go ge gp gv ga S N (mfn gl go ge n S N zf) (bcell lab) (icell out) (dcell en) (qcell par) (dcell lv) (dcell at') wk) ∧ Hid (Pl.LI T d k par lab out en lv at' lA lB) ∧ Below gm w wk)
          case atStart => exact ⟨0, n, 0, -1, 0, _, _, _, _, _, _, Nat.zero_le _, hn, rfl, rfl, rfl, rfl, rfl, rfl, Nat.le_refl _, HL, (by show _ = _; have := Pl.nk_le T d 0; omega), HM, HLI, hbel⟩
          case round =>
            clear HM HLI hbel HL hn n par lab out en lv at'
            obtain ⟨k, n, nn, lA, lB, par, lab, out, en, lv, at', hk, hn, Hg2, rfl, rfl, rfl, rfl, rfl, hnn, HL, Hnn, HM, HLI, hbel⟩ := hrel
            by_cases hlt : k < M
            · have HkV : Hid (k < (Pl.Vd T d).length) := by show _ < _; rw [← HV.out]; exact hlt
              have HH : Hid _ := HLI.out.here HkV.out
              have HM' : Hid _ := HM.out
              have hcv : wr.cell? ⟨gv, k, none⟩ = some (.int .i32 (lv k : Int)) := HM.out.rv.cell (by omega)
              have hca : wr.cell? ⟨ga, k, none⟩ = some (.int .i32 (at' k : Int)) := HM.out.ra.cell (by omega)
              have hxN : lv k < N := by rw [← HT.out]; exact HH.out.2.1
              have hsn : at' k < n := by rw [HL.out]; exact HH.out.2.2.2.1
              have hctx : wr.cell? ⟨gx, lv k, none⟩ = some (.string (T.getD (lv k) ⟨#[]⟩)) := (hbel.cell (p := ⟨gx, lv k, none⟩) hxm).trans (Hrx.out.cell (by omega))
              have hsz := Hsz.out (lv k) hxN
              have HTx : Hid (Pl.Txt T (lv k) = Pl.tb (T.getD (lv k) ⟨#[]⟩)) := rfl
              have hdt : d ≤ (T.getD (lv k) ⟨#[]⟩).size := by have := HH.out.2.2.1; unfold Pl.Txt Pl.tb at this; simpa using this
              generalize T.getD (lv k) ⟨#[]⟩ = t at hctx hsz HTx hdt
              obtain ⟨x, Hx⟩ : ∃ x, Hid (lv k = x) := ⟨_, rfl⟩
              obtain ⟨s, Hsx⟩ : ∃ s, Hid (at' k = s) := ⟨_, rfl⟩
              rw [Hx.out] at hcv hctx hxN
              rw [Hsx.out] at hca hsn
              by_cases hte : t.size = d
              · have HLS : Hid _ := HLI.out.short Hs.out HkV.out (by rw [HTx.out]; unfold Pl.tb; simpa using hte)
                rw [Hx.out, Hsx.out] at HLS
                have hm5 : wr.cell? ⟨gm, 260, none⟩ = some (.slice (some ⟨ge, 0, none⟩) N N) := HM.out.rm.cell (by omega)
                obtain ⟨ve, hce⟩ : ∃ v, wr.cell? ⟨ge, x, none⟩ = some v := ⟨_, HM.out.re.cell hxN⟩
                have hfe := HM.out.re.frozen x
                subst hte
                go_upto_region 20 with fail
                go_quiet (fail)
                rename Nat => n1
                go_upto_region 23 with fail
                obtain ⟨w8, Hw8⟩ : ∃ (w8 : World), Hid (w8 = (wr.drewN n1).setCell ⟨ge, x, none⟩ (.int .i32 (s : Int))) := ⟨_, rfl⟩
                rw [← Hw8.out]
                have HM8 : Hid (LMem gm gl go ge gp gv ga S N (mfn gl go ge n S N zf) (bcell lab) (icell out) (fun j => if j = x then .int .i32 (s : Int) else dcell en j) (qcell par) (dcell lv) (dcell at') w8) := by
                  show LMem _ _ _ _ _ _ _ _ _ _ _ _ _ _ _ _ _
                  rw [Hw8.out]; exact (HM.out.drewN n1).setE x _
                have hbel8 : Below gm w w8 := by rw [Hw8.out]; exact (below_drewN hbel n1).setCell (p := ⟨ge, x, none⟩) (by show gm ≤ ge; omega) _
                have hm3 : w8.cell? ⟨gm, 3, none⟩ = some (.slice (some ⟨go, 0, none⟩) n S) := HM8.out.rm.cell (by omega)
                obtain ⟨vo, hco⟩ : ∃ v, w8.cell? ⟨go, s, none⟩ = some v := ⟨_, HM8.out.ro.cell (by omega)⟩
                have hfo := HM8.out.ro.frozen s
                clear hm5 hce hfe hctx hcv hca Hw8 hbel
                go_wp2
                go_roundg (M - (k + 1))
                case measure => rw [Hg2.out]; omega
                case rel =>
                  refine ⟨k + 1, n, nn, lA, lB, par, lab, _, _, lv, at', by omega, hn, rfl, rfl, rfl, rfl, rfl, by go_num, by omega, ?_, ?_, ?_, HLS.out.1, hbel8.setCell (p := ⟨go, s, none⟩) (by show gm ≤ go; omega) _⟩
                  · show _ = _
                    rw [HLS.out.2.1]; exact HL.out
                  · show _ = _
                    rw [HLS.out.2.2]; exact Hnn.out
                  · exact (HM8.out.setO s (.int .i32 (x : Int))).congr (fun _ => rfl) (fun _ => rfl) (fun j => icell_upd _ _ _ j) (fun j => dcell_upd _ _ _ j) (fun _ => rfl) (fun _ => rfl) (fun _ => rfl)
              · have hdl : d < t.size := by omega
                have Hc : Hid ((Pl.Txt T (lv k))[d]? = some t[d]) := by
                  show _ = _
                  rw [HTx.out]; unfold Pl.tb
                  rw [List.getElem?_eq_getElem (by simpa using hdl)]; rfl
                have hn0 : 0 < n := by rw [HL.out]; exact Pl.Lk_pos T d k
                have hnn' : nn < N := by omega
                clear hdt
                by_cases hsame : (s : Int) = lA ∧ t[d] = lB
                · have HLS : Hid _ := HLI.out.same Hs.out HkV.out Hc.out (by rw [Hsx.out]; exact hsame.1) hsame.2
                  rw [Hx.out, ← HL.out, ← Hnn.out] at HLS
                  obtain ⟨hsA, hcB⟩ := hsame
                  subst hsA
                  have h3 : ((t[d].toNat : Int) != (lB.toNat : Int)) = false := by rw [ch_ne, hcB]; simp
                  clear hcB
                  go_upto_region 20 with fail
                  go_quiet (fail)
                  rename Nat => n1
                  go_upto_region 29 with fail
                  obtain ⟨wq, Hwq⟩ : ∃ (wq : World), Hid (wq = wr.drewN n1) := ⟨_, rfl⟩
                  rw [← Hwq.out]
                  have HMq : Hid (LMem gm gl go ge gp gv ga S N (mfn gl go ge n S N zf) (bcell lab) (icell out) (dcell en) (qcell par) (dcell lv) (dcell at') wq) := by
                    show LMem _ _ _ _ _ _ _ _ _ _ _ _ _ _ _ _ _
                    rw [Hwq.out]; exact HM.out.drewN n1
                  have hbelq : Below gm w wq := by rw [Hwq.out]; exact below_drewN hbel n1
                  have hm0 : wq.cell? ⟨gm, 0, none⟩ = some (.slice (some ⟨gl, 0, none⟩) n S) := HMq.out.rm.cell (by omega)
                  obtain ⟨vv, hcvn⟩ : ∃ v, wq.cell? ⟨gv, nn, none⟩ = some v := ⟨_, HMq.out.rv.cell (by omega)⟩
                  have hfvn := HMq.out.rv.frozen nn
                  obtain ⟨va, hcan⟩ : ∃ v, ∀ u, (wq.setCell ⟨gv, nn, none⟩ u).cell? ⟨ga, nn, none⟩ = some v := ⟨_, fun u => (HMq.out.setV nn u).ra.cell (by omega)⟩
                  have hfan : ∀ u, (wq.setCell ⟨gv, nn, none⟩ u).frozen? ⟨ga, nn, none⟩ = false := fun u => (HMq.out.setV nn u).ra.frozen nn
                  clear hcv hca hctx Hwq hbel h3
                  go_wp2
                  go_roundg (M - (k + 1))
                  case measure => rw [Hg2.out]; omega
                  case rel =>
                    refine ⟨k + 1, n, nn + 1, (s : Int), lB, par, lab, out, en, _, _, by omega, hn, rfl, rfl, by go_num, rfl, rfl, by go_num, by omega, ?_, ?_, ?_, HLS.out.1, (hbelq.setCell (p := ⟨gv, nn, none⟩) (by show gm ≤ gv; omega) _).setCell (p := ⟨ga, nn, none⟩) (by show gm ≤ ga; have := HM.out.ord; omega) _⟩
                    · show _ = _
                      rw [HLS.out.2.1]; exact HL.out
                    · show _ = _
                      exact HLS.out.2.2.symm
                    · refine ((HMq.out.setV nn (.int .i32 (x : Int))).setA nn _).congr (fun _ => rfl) (fun _ => rfl) (fun _ => rfl) (fun _ => rfl) (fun _ => rfl) (fun j => dcell_upd _ _ _ j) (fun j => ?_)
                      rw [← dcell_upd]
                      congr 2
                      go_num
                · have HLS : Hid _ := HLI.out.fresh Hs.out HkV.out Hc.out (by rw [Hsx.out]; exact hsame)
                  rw [Hx.out, Hsx.out, ← HL.out, ← Hnn.out] at HLS
                  have hnS : n < S := by
                    have h1 := Pl.Lk_le Hs.out d (k + 1)
                    rw [HLS.out.2.1, ← HSe.out] at h1
                    omega
                  by_cases hsA : (s : Int) = lA
                  · have hcB : ¬ t[d] = lB := fun e => hsame ⟨hsA, e⟩
                    have h3 : ((t[d].toNat : Int) != (lB.toNat : Int)) = true := by rw [ch_ne]; simp [hcB]
                    clear hcB hsame
                    subst hsA
                    go_upto_region 20 with fail
                    go_quiet (fail)
                    rename Nat => n1
                    go_upto_region 25 with fail
                    obtain ⟨wq, Hwq⟩ : ∃ (wq : World), Hid (wq = wr.drewN n1) := ⟨_, rfl⟩
                    rw [← Hwq.out]
                    go_quiet (fail)
                    rename Nat => n2
                    go_upto_region 26 with fail
                    obtain ⟨wz, Hwz⟩ : ∃ (wz : World), Hid (wz = wq.drewN n2) := ⟨_, rfl⟩
                    rw [← Hwz.out]
                    have HMz : Hid (LMem gm gl go ge gp gv ga S N (mfn gl go ge n S N zf) (bcell lab) (icell out) (dcell en) (qcell par) (dcell lv) (dcell at') wz) := by
                      show LMem _ _ _ _ _ _ _ _ _ _ _ _ _ _ _ _ _
                      rw [Hwz.out, Hwq.out]; exact (HM.out.drewN n1).drewN n2
                    have hbelz : Below gm w wz := by rw [Hwz.out, Hwq.out]; exact below_drewN (below_drewN hbel n1) n2
                    have hm0 : wz.cell? ⟨gm, 0, none⟩ = some (.slice (some ⟨gl, 0, none⟩) n S) := HMz.out.rm.cell (by omega)
                    have hzs : ga < wz.heap.size := HMz.out.ra.lt
                    clear hcv hca hctx Hwq Hwz hbel h3 hM0
                    go_upto_region 27 with (at_builtin; refine wpList_append_one rfl _ _ 29 rfl 5 _ 1 Try.underlying29 info5 gl n S wz.heap.size _ (.int .u8 (t[d].toNat : Int)) rfl rfl (HMz.out.alloc _).rl hnS (new_cell _ _ _ 5 rfl) rfl ?_; intro w6 hrl6 ho6; have HM6 : Hid _ := (HMz.out.alloc (.cells #[.int .u8 (t[d].toNat : Int)] 5)).onlyL ho6 hrl6; have hfm6 := HM6.out.rm.frozen 0; obtain ⟨v6, hcm6⟩ : ∃ v, w6.cell? ⟨gm, 0, none⟩ = some v := ⟨_, HM6.out.rm.cell (by omega)⟩)
                    obtain ⟨wa, Hwa⟩ : ∃ (wa : World), Hid (wa = w6.setCell ⟨gm, 0, none⟩ (.slice (some ⟨gl, 0, none⟩) (n + 1) S)) := ⟨_, rfl⟩
                    rw [← Hwa.out]
                    have HMa : Hid (LMem gm gl go ge gp gv ga S N (fun j => if j = 0 then .slice (some ⟨gl, 0, none⟩) (n + 1) S else mfn gl go ge n S N zf j) (fun j => if j = n then .int .u8 (t[d].toNat : Int) else bcell lab j) (icell out) (dcell en) (qcell par) (dcell lv) (dcell at') wa) := by
                      show LMem _ _ _ _ _ _ _ _ _ _ _ _ _ _ _ _ _
                      rw [Hwa.out]; exact HM6.out.setM 0 _
                    have hbela : Below gm w wa := by rw [Hwa.out]; exact (hbelz.alloc (by have := HMz.out.ord; omega) _).trans ((ho6.below (B := gm) (by omega)).setCell (p := ⟨gm, 0, none⟩) (Nat.le_refl _) _)
                    have hm3 : wa.cell? ⟨gm, 3, none⟩ = some (.slice (some ⟨go, 0, none⟩) n S) := HMa.out.rm.cell (by omega)
                    have hsa : ga < wa.heap.size := HMa.out.ra.lt
                    clear Hwa hrl6 ho6 HM6 hfm6 hcm6 hm0 hbelz HMz hzs
                    go_upto_region 28 with (at_builtin; refine wpList_append_one rfl _ _ 26 rfl 21 _ 4 Try.underlying26 info21 go n S wa.heap.size _ (.int .i32 (-1)) rfl rfl (HMa.out.alloc _).ro hnS (new_cell _ _ _ 21 rfl) rfl ?_; intro w7 hro7 ho7; have HM7 : Hid _ := (HMa.out.alloc (.cells #[.int .i32 (-1)] 21)).onlyO ho7 hro7; have hfm7 := HM7.out.rm.frozen 3; obtain ⟨v7, hcm7⟩ : ∃ v, w7.cell? ⟨gm, 3, none⟩ = some v := ⟨_, HM7.out.rm.cell (by omega)⟩)
                    obtain ⟨wb, Hwb⟩ : ∃ (wb : World), Hid (wb = w7.setCell ⟨gm, 3, none⟩ (.slice (some ⟨go, 0, none⟩) (n + 1) S)) := ⟨_, rfl⟩
                    rw [← Hwb.out]
                    have HMb : Hid (LMem gm gl go ge gp gv ga S N (mfn gl go ge (n + 1) S N zf) (bcell fun i => if i = n then t[d] else lab i) (icell fun i => if i = n then -1 else out i) (dcell en) (qcell par) (dcell lv) (dcell at') wb) := by
                      show LMem _ _ _ _ _ _ _ _ _ _ _ _ _ _ _ _ _
                      rw [Hwb.out]; exact (HM7.out.setM 3 _).congr (fun j => mfn_upd _ _ _ _ _ _ _ j) (fun j => bcell_upd _ _ _ j) (fun j => icell_upd _ _ _ j) (fun _ => rfl) (fun _ => rfl) (fun _ => rfl) (fun _ => rfl)
                    have hbelb : Below gm w wb := by rw [Hwb.out]; exact (hbela.alloc (by have := HMa.out.ord; omega) _).trans ((ho7.below (B := gm) (by omega)).setCell (p := ⟨gm, 3, none⟩) (Nat.le_refl _) _)
                    have hsb : ga < wb.heap.size := HMb.out.ra.lt
                    clear Hwb hro7 ho7 HM7 hfm7 hcm7 hm3 hbela HMa hsa
                    go_upto_region 29 with (at_builtin; refine wpList_append_one rfl _ _ 26 rfl 21 _ 4 Try.underlying26 info21 gp n S wb.heap.size _ (.int .i32 (s : Int)) rfl rfl (HMb.out.alloc _).rp hnS (new_cell _ _ _ 21 rfl) rfl ?_; intro wc hrp8 ho8)
                    have HMc : Hid (LMem gm gl go ge gp gv ga S N (mfn gl go ge (n + 1) S N zf) (bcell fun i => if i = n then t[d] else lab i) (icell fun i => if i = n then -1 else out i) (dcell en) (qcell fun i => if i = n then s else par i) (dcell lv) (dcell at') wc) := by
                      show LMem _ _ _ _ _ _ _ _ _ _ _ _ _ _ _ _ _
                      exact ((HMb.out.alloc (.cells #[.int .i32 (s : Int)] 21)).onlyP ho8 hrp8).congr (fun _ => rfl) (fun _ => rfl) (fun _ => rfl) (fun _ => rfl) (fun j => qcell_upd _ _ _ (by omega) j) (fun _ => rfl) (fun _ => rfl)
                    have hbelc : Below gm w wc := (hbelb.alloc (by have := HMb.out.ord; omega) _).trans (ho8.below (B := gm) (by omega))
                    clear hrp8 ho8 hbelb HMb hsb
                    have hm0 : wc.cell? ⟨gm, 0, none⟩ = some (.slice (some ⟨gl, 0, none⟩) (n + 1) S) := HMc.out.rm.cell (by omega)
                    obtain ⟨vv, hcvn⟩ : ∃ v, wc.cell? ⟨gv, nn, none⟩ = some v := ⟨_, HMc.out.rv.cell (by omega)⟩
                    have hfvn := HMc.out.rv.frozen nn
                    obtain ⟨va, hcan⟩ : ∃ v, ∀ u, (wc.setCell ⟨gv, nn, none⟩ u).cell? ⟨ga, nn, none⟩ = some v := ⟨_, fun u => (HMc.out.setV nn u).ra.cell (by omega)⟩
                    have hfan : ∀ u, (wc.setCell ⟨gv, nn, none⟩ u).frozen? ⟨ga, nn, none⟩ = false := fun u => (HMc.out.setV nn u).ra.frozen nn
                    go_wp2
                    go_roundg (M - (k + 1))
                    case measure => rw [Hg2.out]; omega
                    case rel =>
                      refine ⟨k + 1, n + 1, nn + 1, (s : Int), t[d], _, _, _, en, _, _, by omega, by omega, rfl, by go_num, by go_num, rfl, rfl, by go_num, by omega, ?_, ?_, ?_, HLS.out.1, (hbelc.setCell (p := ⟨gv, nn, none⟩) (by show gm ≤ gv; omega) _).setCell (p := ⟨ga, nn, none⟩) (by show gm ≤ ga; have := HM.out.ord; omega) _⟩
                      · show _ = _
                        rw [HLS.out.2.1]
                      · show _ = _
                        exact HLS.out.2.2.symm
                      · refine ((HMc.out.setV nn (.int .i32 (x : Int))).setA nn _).congr (fun _ => rfl) (fun _ => rfl) (fun _ => rfl) (fun _ => rfl) (fun _ => rfl) (fun j => dcell_upd _ _ _ j) (fun j => ?_)
                        rw [← dcell_upd]
                  · have h3 : ((s : Int) != lA) = true := by simpa using hsA
                    clear hsame hsA
                    go_upto_region 20 with fail
                    go_quiet (fail)
                    rename Nat => n1
                    go_upto_region 25 with fail
                    obtain ⟨wq, Hwq⟩ : ∃ (wq : World), Hid (wq = wr.drewN n1) := ⟨_, rfl⟩
                    rw [← Hwq.out]
                    go_quiet (fail)
                    rename Nat => n2
                    go_upto_region 26 with fail
                    obtain ⟨wz, Hwz⟩ : ∃ (wz : World), Hid (wz = wq.drewN n2) := ⟨_, rfl⟩
                    rw [← Hwz.out]
                    have HMz : Hid (LMem gm gl go ge gp gv ga S N (mfn gl go ge n S N zf) (bcell lab) (icell out) (dcell en) (qcell par) (dcell lv) (dcell at') wz) := by
                      show LMem _ _ _ _ _ _ _ _ _ _ _ _ _ _ _ _ _
                      rw [Hwz.out, Hwq.out]; exact (HM.out.drewN n1).drewN n2
                    have hbelz : Below gm w wz := by rw [Hwz.out, Hwq.out]; exact below_drewN (below_drewN hbel n1) n2
                    have hm0 : wz.cell? ⟨gm, 0, none⟩ = some (.slice (some ⟨gl, 0, none⟩) n S) := HMz.out.rm.cell (by omega)
                    have hzs : ga < wz.heap.size := HMz.out.ra.lt
                    clear hcv hca hctx Hwq Hwz hbel h3 hM0
                    go_upto_region 27 with (at_builtin; refine wpList_append_one rfl _ _ 29 rfl 5 _ 1 Try.underlying29 info5 gl n S wz.heap.size _ (.int .u8 (t[d].toNat : Int)) rfl rfl (HMz.out.alloc _).rl hnS (new_cell _ _ _ 5 rfl) rfl ?_; intro w6 hrl6 ho6; have HM6 : Hid _ := (HMz.out.alloc (.cells #[.int .u8 (t[d].toNat : Int)] 5)).onlyL ho6 hrl6; have hfm6 := HM6.out.rm.frozen 0; obtain ⟨v6, hcm6⟩ : ∃ v, w6.cell? ⟨gm, 0, none⟩ = some v := ⟨_, HM6.out.rm.cell (by omega)⟩)
                    obtain ⟨wa, Hwa⟩ : ∃ (wa : World), Hid (wa = w6.setCell ⟨gm, 0, none⟩ (.slice (some ⟨gl, 0, none⟩) (n + 1) S)) := ⟨_, rfl⟩
                    rw [← Hwa.out]
                    have HMa : Hid (LMem gm gl go ge gp gv ga S N (fun j => if j = 0 then .slice (some ⟨gl, 0, none⟩) (n + 1) S else mfn gl go ge n S N zf j) (fun j => if j = n then .int .u8 (t[d].toNat : Int) else bcell lab j) (icell out) (dcell en) (qcell par) (dcell lv) (dcell at') wa) := by
                      show LMem _ _ _ _ _ _ _ _ _ _ _ _ _ _ _ _ _
                      rw [Hwa.out]; exact HM6.out.setM 0 _
                    have hbela : Below gm w wa := by rw [Hwa.out]; exact (hbelz.alloc (by have := HMz.out.ord; omega) _).trans ((ho6.below (B := gm) (by omega)).setCell (p := ⟨gm, 0, none⟩) (Nat.le_refl _) _)
                    have hm3 : wa.cell? ⟨gm, 3, none⟩ = some (.slice (some ⟨go, 0, none⟩) n S) := HMa.out.rm.cell (by omega)
                    have hsa : ga < wa.heap.size := HMa.out.ra.lt
                    clear Hwa hrl6 ho6 HM6 hfm6 hcm6 hm0 hbelz HMz hzs
                    go_upto_region 28 with (at_builtin; refine wpList_append_one rfl _ _ 26 rfl 21 _ 4 Try.underlying26 info21 go n S wa.heap.size _ (.int .i32 (-1)) rfl rfl (HMa.out.alloc _).ro hnS (new_cell _ _ _ 21 rfl) rfl ?_; intro w7 hro7 ho7; have HM7 : Hid _ := (HMa.out.alloc (.cells #[.int .i32 (-1)] 21)).onlyO ho7 hro7; have hfm7 := HM7.out.rm.frozen 3; obtain ⟨v7, hcm7⟩ : ∃ v, w7.cell? ⟨gm, 3, none⟩ = some v := ⟨_, HM7.out.rm.cell (by omega)⟩)
                    obtain ⟨wb, Hwb⟩ : ∃ (wb : World), Hid (wb = w7.setCell ⟨gm, 3, none⟩ (.slice (some ⟨go, 0, none⟩) (n + 1) S)) := ⟨_, rfl⟩
                    rw [← Hwb.out]
                    have HMb : Hid (LMem gm gl go ge gp gv ga S N (mfn gl go ge (n + 1) S N zf) (bcell fun i => if i = n then t[d] else lab i) (icell fun i => if i = n then -1 else out i) (dcell en) (qcell par) (dcell lv) (dcell at') wb) := by
                      show LMem _ _ _ _ _ _ _ _ _ _ _ _ _ _ _ _ _
                      rw [Hwb.out]; exact (HM7.out.setM 3 _).congr (fun j => mfn_upd _ _ _ _ _ _ _ j) (fun j => bcell_upd _ _ _ j) (fun j => icell_upd _ _ _ j) (fun _ => rfl) (fun _ => rfl) (fun _ => rfl) (fun _ => rfl)
                    have hbelb : Below gm w wb := by rw [Hwb.out]; exact (hbela.alloc (by have := HMa.out.ord; omega) _).trans ((ho7.below (B := gm) (by omega)).setCell (p := ⟨gm, 3, none⟩) (Nat.le_refl _) _)
                    have hsb : ga < wb.heap.size := HMb.out.ra.lt
                    clear Hwb hro7 ho7 HM7 hfm7 hcm7 hm3 hbela HMa hsa
                    go_upto_region 29 with (at_builtin; refine wpList_append_one rfl _ _ 26 rfl 21 _ 4 Try.underlying26 info21 gp n S wb.heap.size _ (.int .i32 (s : Int)) rfl rfl (HMb.out.alloc _).rp hnS (new_cell _ _ _ 21 rfl) rfl ?_; intro wc hrp8 ho8)
                    have HMc : Hid (LMem gm gl go ge gp gv ga S N (mfn gl go ge (n + 1) S N zf) (bcell fun i => if i = n then t[d] else lab i) (icell fun i => if i = n then -1 else out i) (dcell en) (qcell fun i => if i = n then s else par i) (dcell lv) (dcell at') wc) := by
                      show LMem _ _ _ _ _ _ _ _ _ _ _ _ _ _ _ _ _
                      exact ((HMb.out.alloc (.cells #[.int .i32 (s : Int)] 21)).onlyP ho8 hrp8).congr (fun _ => rfl) (fun _ => rfl) (fun _ => rfl) (fun _ => rfl) (fun j => qcell_upd _ _ _ (by omega) j) (fun _ => rfl) (fun _ => rfl)
                    have hbelc : Below gm w wc := (hbelb.alloc (by have := HMb.out.ord; omega) _).trans (ho8.below (B := gm) (by omega))
                    clear hrp8 ho8 hbelb HMb hsb
                    have hm0 : wc.cell? ⟨gm, 0, none⟩ = some (.slice (some ⟨gl, 0, none⟩) (n + 1) S) := HMc.out.rm.cell (by omega)
                    obtain ⟨vv, hcvn⟩ : ∃ v, wc.cell? ⟨gv, nn, none⟩ = some v := ⟨_, HMc.out.rv.cell (by omega)⟩
                    have hfvn := HMc.out.rv.frozen nn
                    obtain ⟨va, hcan⟩ : ∃ v, ∀ u, (wc.setCell ⟨gv, nn, none⟩ u).cell? ⟨ga, nn, none⟩ = some v := ⟨_, fun u => (HMc.out.setV nn u).ra.cell (by omega)⟩
                    have hfan : ∀ u, (wc.setCell ⟨gv, nn, none⟩ u).frozen? ⟨ga, nn, none⟩ = false := fun u => (HMc.out.setV nn u).ra.frozen nn
                    go_wp2
                    go_roundg (M - (k + 1))
                    case measure => rw [Hg2.out]; omega
                    case rel =>
                      refine ⟨k + 1, n + 1, nn + 1, (s : Int), t[d], _, _, _, en, _, _, by omega, by omega, rfl, by go_num, by go_num, rfl, rfl, by go_num, by omega, ?_, ?_, ?_, HLS.out.1, (hbelc.setCell (p := ⟨gv, nn, none⟩) (by show gm ≤ gv; omega) _).setCell (p := ⟨ga, nn, none⟩) (by show gm ≤ ga; have := HM.out.ord; omega) _⟩
                      · show _ = _
                        rw [HLS.out.2.1]
                      · show _ = _
                        exact HLS.out.2.2.symm
                      · refine ((HMc.out.setV nn (.int .i32 (x : Int))).setA nn _).congr (fun _ => rfl) (fun _ => rfl) (fun _ => rfl) (fun _ => rfl) (fun _ => rfl) (fun j => dcell_upd _ _ _ j) (fun j => ?_)
                        rw [← dcell_upd]
            · have ek : M = k := by omega
              subst ek
              have hL2 := HLI.out
              rw [HV.out] at hL2
              have HL3 : Hid _ := hL2.deeper
              have hN1 : n = (Pl.Lk T (d + 1) 0).length ∧ nn = (Pl.Vd T (d + 1)).length := by
                have h := Pl.Lk_next T d
                rw [← HV.out] at h
                exact ⟨by rw [HL.out, h.1], by rw [Hnn.out, h.2]⟩
              have HN1 : Hid _ := hN1
              clear hL2 hN1
              have hd2 : d ≤ 1048576 := by
                have hm : 0 < (Pl.Vd T d).length := by rw [← HV.out]; exact hM0
                have h1 := Pl.Vd_lt (List.getElem_mem hm)
                have h2 := Hsz.out _ (by rw [← HT.out]; exact h1.1)
                have h3 := h1.2
                unfold Pl.Txt Pl.tb at h3
                simp at h3 h2
                omega
              go_upto_region 32 with fail
              go_quiet (fail)
              rename Nat => n1
              go_wp2
              go_roundg (1048578 - (d + 1))
              case measure => rw [Hg.out]; omega
              case rel => exact ⟨d + 1, n, nn, par, lab, out, en, lv, at', by omega, by omega, hn, rfl, rfl, rfl, rfl, by go_num, HN1.out.2, HN1.out.1, HM.out.drewN n1, HL3.out, below_drewN hbel n1⟩
        · have HE : Hid _ := HLI.out.fin Hs.out (by rw [← HV.out]; omega)
          have en1 : n = S := by rw [HL.out, HE.out.len, ← HSe.out]
          subst en1
          have hE2 := HE.out
          generalize Pl.Lk T d 0 = L at hE2
          have HE2 : Hid _ := hE2
          have HEp : Hid (∀ s, 0 < s → s < n → par s < s) := by
            intro s h0 h1
            have hl : L.length = n := by rw [HE2.out.len, ← HSe.out]
            exact (HE2.out.trie.par s h0 (by rw [hl]; exact h1)).1
          clear hE2 HE HLI HL HV Hsz Hrx hM hd Hg
          have e0 : M = 0 := by omega
          subst e0
          clear hM0
          have hmk4 := run_make_row' (P := Try.prog) 26 21 (.int .i32 0) 4 Try.underlying26 info21 rfl .i64 .i64 (n + 1) (by omega) (by omega)
          have ec : ((n + 1 : Nat) : Int) = (n : Int) + 1 := by omega
          simp only [ec] at hmk4
          clear ec hmk3 hn
          have hm0 : wr.cell? ⟨gm, 0, none⟩ = some (.slice (some ⟨gl, 0, none⟩) n n) := HM.out.rm.cell (by omega)
          have hzs : ga < wr.heap.size := HM.out.ra.lt
          obtain ⟨v1, hm1⟩ : ∃ v, ∀ o, (wr.alloc o).cell? ⟨gm, 1, none⟩ = some v := ⟨_, fun o => (HM.out.rm.alloc o).cell (by omega)⟩
          have hf1 : ∀ o, (wr.alloc o).frozen? ⟨gm, 1, none⟩ = false := fun o => (HM.out.rm.alloc o).frozen 1
          go_upto_region 34 with fail
          obtain ⟨w9, gf, Hw9⟩ : ∃ (w9 : World) (gf : Nat), Hid (w9 = (wr.alloc (.cells (madeCells #[.int .i32 0] (n + 1)) 21)).setCell ⟨gm, 1, none⟩ (.slice (some ⟨wr.heap.size, 0, none⟩) (n + 1) (n + 1)) ∧ gf = wr.heap.size) := ⟨_, _, rfl, rfl⟩
          rw [← Hw9.out.1]
          have HM9 : Hid (LMem gm gl go ge gp gv ga n N (fun j => if j = 1 then .slice (some ⟨gf, 0, none⟩) (n + 1) (n + 1) else mfn gl go ge n n N zf j) (bcell lab) (icell out) (dcell en) (qcell par) (dcell lv) (dcell at') w9) := by
            show LMem _ _ _ _ _ _ _ _ _ _ _ _ _ _ _ _ _
            rw [Hw9.out.1, Hw9.out.2]; exact (HM.out.alloc _).setM 1 _
          have hrf9 : w9.rowIs gf 21 (n + 1) (dcell fun _ => 0) := by
            rw [Hw9.out.1, Hw9.out.2]; exact (World.rowIs_made wr _ (n + 1) 21).setOther (by show _ ≠ gm; have := HM.out.ord; omega) _
          have hbel9 : Below gm w w9 := by rw [Hw9.out.1]; exact (hbel.alloc (by have := HM.out.ord; omega) _).setCell (p := ⟨gm, 1, none⟩) (Nat.le_refl _) _
          have hgf : ga < gf := by rw [Hw9.out.2]; exact hzs
          have hga : gv < ga := HM.out.ord.2.2.2.2.2
          clear Hw9 hm0 hm1 hf1 hzs HM hbel hmk4
          have hm1 : w9.cell? ⟨gm, 1, none⟩ = some (.slice (some ⟨gf, 0, none⟩) (n + 1) (n + 1)) := HM9.out.rm.cell (by omega)
          obtain ⟨v2, hcf⟩ : ∃ v, w9.cell? ⟨gf, 0, none⟩ = some v := ⟨_, hrf9.cell (by omega)⟩
          have hff := hrf9.frozen 0
          go_upto_region 35 with fail
          obtain ⟨wa, Hwa⟩ : ∃ (wa : World), Hid (wa = w9.setCell ⟨gf, 0, none⟩ (.int .i32 1)) := ⟨_, rfl⟩
          rw [← Hwa.out]
          have hrfa : wa.rowIs gf 21 (n + 1) (dcell (Pl.fA par 1)) := by
            rw [Hwa.out]
            refine (hrf9.set 0 _).congr fun j _ => ?_
            unfold dcell Pl.fA
            by_cases e : j = 0
            · subst e; rfl
            · simp [e, Pl.eqP]
          have hoa : Only gf w9 wa := by rw [Hwa.out]; exact only_set _ _ _ _
          clear Hwa hcf hff hm1 hrf9
          obtain ⟨R, HR⟩ : ∃ R, Hid (n = R + 1) := ⟨n - 1, by show _ = _; omega⟩
          have eR := HR.out
          subst eR
          have hgpf : gp ≠ gf := by omega
          have hgmf : gm ≠ gf := by omega
          go_upto_region 36 with fail
          all_goals
            go_wp2_with fail
            go_loopg [179] R (fun g4 v179 wk => ∃ (k : Nat), k ≤ R ∧ Hid (g4 = R - k) ∧ v179 = .int .i64 (k : Int) ∧ wk.rowIs gf 21 (R + 1 + 1) (dcell (Pl.fA par (k + 1))) ∧ Only gf w9 wk)
            case atStart => exact ⟨0, Nat.zero_le _, rfl, rfl, hrfa, hoa⟩
            case round =>
              clear hrfa hoa wa
              obtain ⟨k, hk, Hg4, rfl, hrf, hof⟩ := hrel
              by_cases hlt : k < R
              · obtain ⟨pp, Hpp⟩ : ∃ pp, Hid (par (k + 1) = pp) := ⟨_, rfl⟩
                by_cases hR0 : R = 0
                · exact absurd hlt (by omega)
                have hcp : wr.cell? ⟨gp, k + 1, none⟩ = some (.int .i32 (pp : Int)) := by
                  rw [(hof.row hgpf HM9.out.rp).cell (by omega)]
                  unfold qcell
                  rw [if_neg (by omega), Hpp.out]
                have hcp' : wr.cell? ⟨gp, 1 + k, none⟩ = some (.int .i32 (pp : Int)) := by rw [Nat.add_comm]; exact hcp
                have hpp : pp < k + 1 := by rw [← Hpp.out]; exact HEp.out (k + 1) (by omega) (by omega)
                have hm1 : wr.cell? ⟨gm, 1, none⟩ = some (.slice (some ⟨gf, 0, none⟩) (R + 1 + 1) (R + 1 + 1)) := (hof.row hgmf HM9.out.rm).cell (by omega)
                obtain ⟨y, Hy⟩ : ∃ y, Hid (Pl.fA par (k + 1) (pp + 1) = y) := ⟨_, rfl⟩
                have hcf : wr.cell? ⟨gf, pp + 1, none⟩ = some (.int .i32 (y : Int)) := by rw [hrf.cell (by omega)]; unfold dcell; rw [Hy.out]
                have hyb : y ≤ 1048580 := by rw [← Hy.out]; have := Pl.fA_le par (k + 1) (pp + 1); omega
                have hff := hrf.frozen (pp + 1)
                go_wp2
                all_goals
                  go_roundg (R - (k + 1))
                  case measure => rw [Hg4.out]; omega
                  case rel =>
                    refine ⟨k + 1, by omega, rfl, by go_num, (dcell_set (x := pp + 1) (d := y + 1) hrf (by go_num)).congr fun j _ => ?_, hof.trans (only_set _ _ _ _)⟩
                    show Value.int .i32 _ = Value.int .i32 _
                    rw [Pl.fA_step par (k + 1) j (by omega), Hpp.out, Hy.out]
              · have ek : R = k := by omega
                subst ek
                have hrf1 : wr.rowIs gf 21 (R + 1 + 1) (dcell (Pl.fB par (R + 1) 1)) := hrf.congr fun j _ => by unfold dcell; rw [Pl.fA_fB]
                clear hrf hk Hg4 hlt
                go_upto_region 41 with fail
                go_wp2_with fail
                go_loopg [21] (R + 1) (fun g5 v21 wk => ∃ (s : Nat), s + 1 ≤ R + 2 ∧ Hid (g5 = R + 1 - s) ∧ v21 = .int .i64 ((s : Int) + 1) ∧ wk.rowIs gf 21 (R + 1 + 1) (dcell (Pl.fB par (R + 1) (s + 1))) ∧ Only gf w9 wk)
                case atStart => exact ⟨0, by omega, rfl, rfl, hrf1, hof⟩
                case round =>
                  clear hrf1 hof
                  obtain ⟨s, hs, Hg5, rfl, hrf, hof⟩ := hrel
                  have hm1 : wr.cell? ⟨gm, 1, none⟩ = some (.slice (some ⟨gf, 0, none⟩) (R + 1 + 1) (R + 1 + 1)) := (hof.row hgmf HM9.out.rm).cell (by omega)
                  by_cases hlt : s < R + 1
                  · obtain ⟨y, Hy⟩ : ∃ y, Hid (Pl.fB par (R + 1) (s + 1) (s + 1) = y) := ⟨_, rfl⟩
                    obtain ⟨z, Hz⟩ : ∃ z, Hid (Pl.fB par (R + 1) (s + 1) s = z) := ⟨_, rfl⟩
                    have hcf : wr.cell? ⟨gf, s + 1, none⟩ = some (.int .i32 (y : Int)) := by rw [hrf.cell (by omega)]; unfold dcell; rw [Hy.out]
                    have hcf' : wr.cell? ⟨gf, s, none⟩ = some (.int .i32 (z : Int)) := by rw [hrf.cell (by omega)]; unfold dcell; rw [Hz.out]
                    have hyb : y ≤ 1048580 := by rw [← Hy.out]; have := Pl.fB_le par (R + 1) (s + 1) (s + 1); omega
                    have hzb : z ≤ 1048580 := by rw [← Hz.out]; have := Pl.fB_le par (R + 1) (s + 1) s; omega
                    have hff := hrf.frozen (s + 1)
                    go_upto_region 43 with fail
                    go_region
                    go_wp2_with fail
                    go_roundg (R + 1 - (s + 1))
                    case measure => rw [Hg5.out]; omega
                    case rel =>
                      refine ⟨s + 1, by omega, rfl, by go_num, ((dcell_set (x := s + 1) (d := y + z) hrf (by go_num)).congr fun j _ => ?_).drew, (hof.trans (only_set _ _ _ _)).drew⟩
                      show Value.int .i32 _ = Value.int .i32 _
                      rw [Pl.fB_step par (R + 1) (s + 1) j (by omega), Nat.add_sub_cancel, Hy.out, Hz.out]
                  · have es : s = R + 1 := by omega
                    subst es
                    go_wp2
                    go_ret
                    have o := HM9.out.ord
                    refine ⟨gl, go, ge, gp, gf, L, par, lab, out, en, _, (by first | rfl | (have eR0 : R = 0 := by omega); rw [eR0]; rfl), hof.row hgmf HM9.out.rm, rfl, rfl, rfl, rfl, hof.row (by omega) HM9.out.rl, hrf.congr fun j hj => ?_, hof.row (by omega) HM9.out.ro, hof.row (by omega) HM9.out.re, hof.row hgpf HM9.out.rp, ⟨hml, hlo, hoe, hep, by omega⟩, hbel9.trans (hof.below (by omega)), HE2.out⟩
                    unfold dcell Pl.fB
                    rw [if_pos (by omega)]
end Go.Proofs.Qxb6001318a
