/-
  THE WALK of ZZLay.
-/
import Derived.Test.Qxb6001318aLay
namespace Go.Proofs.Qxb6001318a
open Go.RowKit
set_option linter.unusedSimpArgs false
set_option linter.unusedVariables false

/-- A Matcher's cells, none set. -/
def Z49 : Array Value := (#[.slice none 0 0, .slice none 0 0, .slice none 0 0, .slice none 0 0] ++ Array.replicate 256 (.int .i32 0)) ++ #[.slice none 0 0, .slice none 0 0]
theorem zero49 (w : World) : (zeroValue 49).run Try.prog w = .ok (.agg Z49) w := by kernel_rfl
theorem Z49_size : Z49.size = 262 := by kernel_rfl
theorem build49 (w : World) : (Instr.build 49 #[]).run Try.prog w = .ok (.agg Z49) w := by kernel_rfl
def zf49 (j : Nat) : Value := Z49.getD j (.int .i32 0)

theorem row49 (w : World) : (w.alloc (.cells Z49 49)).rowIs w.heap.size 49 262 zf49 := by
  have h := World.rowIs_alloc w Z49 49 zf49 (fun i hi => by
    unfold zf49
    rw [Array.getD_eq_getD_getElem?, Array.getElem?_eq_getElem hi]; rfl)
  rw [Z49_size] at h
  exact h

/-- What ZZLay hands back. -/
def ZZLayPost (w : World) (T : List ByteArray) (N S : Nat) (e : Ending) (w' : World) : Prop :=
  ∃ (gl go ge gp gf : Nat) (L : List (List UInt8)) (par : Nat → Nat) (lab : Nat → UInt8) (out : Nat → Int) (en : Nat → Nat),
    e = .returned (.tuple #[.slice (some ⟨gl, 0, none⟩) S S, .slice (some ⟨gf, 0, none⟩) (S + 1) (S + 1), .slice (some ⟨go, 0, none⟩) S S, .slice (some ⟨ge, 0, none⟩) N N, .slice (some ⟨gp, 0, none⟩) S S]) ∧
    w'.rowIs gl 5 S (bcell lab) ∧ w'.rowIs gf 21 (S + 1) (dcell (Pl.fstC par S)) ∧ w'.rowIs go 21 S (icell out) ∧ w'.rowIs ge 21 N (dcell en) ∧ w'.rowIs gp 21 S (qcell par) ∧
    (w.heap.size ≤ gl ∧ gl < go ∧ go < ge ∧ ge < gp ∧ gp < gf) ∧ Below w.heap.size w w' ∧ Pl.LE T L par lab out en

set_option maxRecDepth 100000 in
set_option maxHeartbeats 1000000 in
theorem zzLay_any (gx N capx S : Nat) (T : List ByteArray) (w : World) (hT : T.length = N) (hN : N ≤ 65536) (hNc : N ≤ capx) (hsz : ∀ i, i < N → (T.getD i ⟨#[]⟩).size ≤ 1048576) (hS : S = 1 + Pl.cnt [] T) (hS2 : S ≤ 1048577) (hs : Pl.Srt T)
    (hrx : w.rowIs gx 9 capx (ycell T)) :
    Calls Try.prog 11 #[.slice (some ⟨gx, 0, none⟩) N capx, .int .i64 (S : Int)] w (ZZLayPost w T N S) := by
  have hb49 := zero49
  have hz1 : ¬ Z49 = #[] := by intro e; have := congrArg Array.size e; rw [Z49_size] at this; cases this
  obtain ⟨w1, gm, Hw1⟩ : ∃ (w1 : World) (gm : Nat), Hid (w1 = w.alloc (.cells Z49 49) ∧ gm = w.heap.size) := ⟨_, _, rfl, rfl⟩
  have HLay : Hid _ := lay_any gm gx N capx S T zf49 w1 hT hN hNc hsz hS hS2 hs (by rw [Hw1.out.1]; exact hrx.alloc _) (by rw [Hw1.out.1, Hw1.out.2]; exact row49 w) (by rw [Hw1.out.2]; exact hrx.lt)
  clear hrx hs hS hsz hT
  go_enter Try.func11, Try.ntmps11
  go_upto_region 2 with fail
  rw [← Hw1.out.1, ← Hw1.out.2]
  go_wp2_with fail
  refine Calls.mono HLay.out ?_
  rintro e w2 ⟨gl, go, ge, gp, gf, L, par, lab, out, en, mf, rfl, hrm, m0, m1, m3, m5, hrl, hrf, hro, hre, hrp, hord, hbel, hLE⟩
  have hc0 : w2.cell? ⟨gm, 0, none⟩ = some (.slice (some ⟨gl, 0, none⟩) S S) := by rw [← m0]; exact hrm.cell (by omega)
  have hc1 : w2.cell? ⟨gm, 1, none⟩ = some (.slice (some ⟨gf, 0, none⟩) (S + 1) (S + 1)) := by rw [← m1]; exact hrm.cell (by omega)
  have hc3 : w2.cell? ⟨gm, 3, none⟩ = some (.slice (some ⟨go, 0, none⟩) S S) := by rw [← m3]; exact hrm.cell (by omega)
  have hc5 : w2.cell? ⟨gm, 260, none⟩ = some (.slice (some ⟨ge, 0, none⟩) N N) := by rw [← m5]; exact hrm.cell (by omega)
  have HLE : Hid _ := hLE
  have Hbel : Hid (Below w.heap.size w w2) := by
    have e := Hw1.out.2
    have h1 : Below gm w w1 := by rw [Hw1.out.1, Hw1.out.2]; exact (Below.refl _ w).alloc (Nat.le_refl _) _
    have := h1.trans hbel
    rw [e] at this
    exact this
  have Hord : Hid (w.heap.size ≤ gl ∧ gl < go ∧ go < ge ∧ ge < gp ∧ gp < gf) := by
    have e := Hw1.out.2
    show _ ∧ _
    omega
  have HR : Hid (w2.rowIs gl 5 S (bcell lab) ∧ w2.rowIs gf 21 (S + 1) (dcell (Pl.fstC par S)) ∧ w2.rowIs go 21 S (icell out) ∧ w2.rowIs ge 21 N (dcell en) ∧ w2.rowIs gp 21 S (qcell par)) := ⟨hrl, hrf, hro, hre, hrp⟩
  clear hrl hrf hro hre hrp hrm m0 m1 m3 m5 hbel hord hLE HLay
  go_upto_region 3 with fail
  go_quiet (fail)
  rename Nat => n1
  go_wp2
  refine bodyPost_ret (v := .tuple #[.slice (some ⟨gl, 0, none⟩) S S, .slice (some ⟨gf, 0, none⟩) (S + 1) (S + 1), .slice (some ⟨go, 0, none⟩) S S, .slice (some ⟨ge, 0, none⟩) N N, .slice (some ⟨gp, 0, none⟩) S S]) (by simp [results, Try.results11, go_sem]) rfl ?_
  obtain ⟨r1, r2, r3, r4, r5⟩ := HR.out
  exact ⟨gl, go, ge, gp, gf, L, par, lab, out, en, rfl, row_drewN r1 n1, row_drewN r2 n1, row_drewN r3 n1, row_drewN r4 n1, row_drewN r5 n1, Hord.out, below_drewN Hbel.out n1, HLE.out⟩
end Go.Proofs.Qxb6001318a
