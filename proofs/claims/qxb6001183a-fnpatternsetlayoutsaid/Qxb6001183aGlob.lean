/-
  THE WALK of globMatch.
-/
import Derived.Test.Qxb6001183aCount
import Derived.Test.Qxb6001183aGlobPlain
import Derived.Deep.LoopGhost
namespace Go.Proofs.Qxb6001183a
open Go.RowKit
set_option linter.unusedSimpArgs false
set_option linter.unusedVariables false

theorem info4 : (Try.prog.info? 4).map (fun i => (i.zero, i.size, i.bytes)) = some (some (.bool false), 1, 1) := by kernel_rfl

theorem ch_eq (a b : UInt8) : ((a.toNat : Int) == (b.toNat : Int)) = (a == b) := by
  rw [Bool.eq_iff_iff]; simp only [beq_iff_eq, ← UInt8.toNat_inj]; omega
theorem ch_slash (a : UInt8) : ((a.toNat : Int) != 47) = (a != 47) := by
  have : (47 : UInt8).toNat = 47 := rfl
  rw [Bool.eq_iff_iff]; simp only [bne_iff_ne, ne_eq, ← UInt8.toNat_inj]; omega

theorem row_start (w : World) (n : Nat) (z v : Value) (t : TypeId) (f : Nat → Value) (h0 : f 0 = v) (hf : ∀ j, 0 < j → j < n + 1 → f j = z) : (w.alloc (.cells ((madeCells #[z] (n + 1)).setIfInBounds 0 v) t)).rowIs w.heap.size t (n + 1) f := by
  have h := World.rowIs_alloc w ((madeCells #[z] (n + 1)).setIfInBounds 0 v) t f (fun i hi => by
    have hi' : i < n + 1 := by simpa [size_madeCells] using hi
    rw [Array.getElem?_setIfInBounds]
    by_cases e : i = 0
    · subst e; simp [size_madeCells, h0]
    · rw [if_neg (fun e2 => e e2.symm)]
      rw [hf i (by omega) hi']
      simp [madeCells, hi', Nat.mod_one])
  have e : ((madeCells #[z] (n + 1)).setIfInBounds 0 v).size = n + 1 := by simp [size_madeCells]
  rw [e] at h
  exact h

theorem row_made_second (w : World) (o : Obj) (n : Nat) (z : Value) (t : TypeId) : ((w.alloc o).alloc (.cells (madeCells #[z] n) t)).rowIs (w.heap.size + 1) t n (fun _ => z) := by
  have h := World.rowIs_made (w.alloc o) z n t
  have e : (w.alloc o).heap.size = w.heap.size + 1 := by simp
  rw [e] at h
  exact h

/-- A row of bools. -/
def tcell (f : Nat → Bool) (j : Nat) : Value := .bool (f j)

set_option maxHeartbeats 1000000 in
set_option maxRecDepth 100000 in
theorem globMatch_any (p s : ByteArray) (w : World) (hp : p.size ≤ 65536) (hs : s.size ≤ 4096) :
    Calls Try.prog 18 #[.string p, .string s] w fun e w' => e = .returned (.bool (Pl.glob p.data.toList s.data.toList)) ∧ Below w.heap.size w w' := by
  have HPL : Hid (p.data.toList.length = p.size) := by show _ = _; simp
  have HSL : Hid (s.data.toList.length = s.size) := by show _ = _; simp
  have hmk0 := run_make_row' (P := Try.prog) 47 4 (.bool false) 1 Try.underlying47 info4 rfl .i64 .i64 (s.size + 1) (by omega) (by omega)
  have hmk : ∀ w : World, (Instr.makeSlice 47 (.int .i64 ((s.size : Int) + 1)) (.int .i64 ((s.size : Int) + 1))).run Try.prog w = .ok (.slice (some ⟨w.heap.size, 0, none⟩) (s.size + 1) (s.size + 1)) (w.alloc (.cells (madeCells #[.bool false] (s.size + 1)) 4)) := hmk0
  clear hmk0
  have hm0 : (madeCells #[Value.bool false] (s.size + 1))[0]? = some (.bool false) := by simp [madeCells]
  go_enter Try.func18, Try.ntmps18
  go_wp2
  go_loopg [5, 6, 7] p.size (fun gk pv cu i wr => ∃ (k gp gc : Nat) (G : Nat → Bool), k ≤ p.size ∧ Hid (gk = p.size - k) ∧ i = .int .i64 k ∧ pv = .slice (some ⟨gp, 0, none⟩) (s.size + 1) (s.size + 1) ∧ cu = .slice (some ⟨gc, 0, none⟩) (s.size + 1) (s.size + 1) ∧
      gp ≠ gc ∧ w.heap.size ≤ gp ∧ w.heap.size ≤ gc ∧ wr.rowIs gp 4 (s.size + 1) (tcell (Pl.D p.data.toList s.data.toList k)) ∧ wr.rowIs gc 4 (s.size + 1) (tcell G) ∧ Below w.heap.size w wr)
  case atStart =>
    refine ⟨0, w.heap.size, w.heap.size + 1, fun _ => false, Nat.zero_le _, rfl, rfl, rfl, rfl, by omega, Nat.le_refl _, by omega, ?_, ?_, ((Below.refl _ _).alloc (Nat.le_refl _) _).alloc (by simp) _⟩
    · refine (row_start w s.size _ _ 4 _ ?_ fun j h1 h2 => ?_).alloc _
      · rw [tcell, Pl.D_zero _ _ _ (by omega)]; rfl
      · rw [tcell, Pl.D_zero _ _ _ (by rw [HSL.out]; omega)]; simp; omega
    · exact row_made_second _ _ _ _ _
  case round =>
    obtain ⟨k, gp, gc, G, hk, Hgk, rfl, rfl, rfl, hne, hgp, hgc, hrp, hrc, hbel⟩ := hrel
    clear hmk hm0
    by_cases hlt : k < p.size
    · have hk' : k < p.data.toList.length := by rw [HPL.out]; exact hlt
      have hvk : p.data.toList[k] = p[k] := rfl
      have hp0 := hrp.cell (i := 0) (by omega)
      have hc0 := hrc.cell (i := 0) (by omega)
      have hf0 := hrc.frozen 0
      by_cases hst : p[k] = 42
      · have h3 : ((p[k].toNat : Int) == 42) = true := (star_iff _).2 hst
        have HP : Hid (p.data.toList[k] = 42) := hvk.trans hst
        clear hst hvk
        unfold tcell at hp0 hc0
        go_wp2
        go_loopg [9] s.size (fun gj jv wj => ∃ j : Nat, j ≤ s.size ∧ Hid (gj = s.size - j) ∧ jv = .int .i64 ((j : Int) + 1) ∧ wj.rowIs gp 4 (s.size + 1) (tcell (Pl.D p.data.toList s.data.toList k)) ∧
            wj.rowIs gc 4 (s.size + 1) (tcell (fun x => if x ≤ j then Pl.D p.data.toList s.data.toList (k + 1) x else G x)) ∧ Below w.heap.size w wj)
        case atStart =>
          refine ⟨0, Nat.zero_le _, rfl, rfl, hrp.setOther (by simpa using hne) _, ?_, hbel.setCell (p := ⟨gc, 0, none⟩) hgc _⟩
          refine (hrc.set 0 _).congr fun x hx => ?_
          by_cases e : x = 0
          · subst e; simp only [if_true, tcell, Nat.le_refl]; rw [Pl.D_star_zero _ _ _ hk' HP.out]
          · rw [if_neg e]; simp only [tcell]; rw [if_neg (by omega)]
        case round =>
          obtain ⟨j, hj, Hgj, rfl, hrp2, hrc2, hbel2⟩ := hrel
          clear hp0 hc0 hf0 hrp hrc hbel
          by_cases hjl : j < s.size
          · have hj' : j < s.data.toList.length := by rw [HSL.out]; exact hjl
            have HD : Hid (Pl.D p.data.toList s.data.toList (k + 1) (j + 1) = (Pl.D p.data.toList s.data.toList k (j + 1) || (s[j] != 47 && Pl.D p.data.toList s.data.toList (k + 1) j))) := Pl.D_star _ _ _ _ hk' hj' HP.out
            obtain ⟨d1, Hd1⟩ : ∃ d, Hid (d = Pl.D p.data.toList s.data.toList k (j + 1)) := ⟨Pl.D p.data.toList s.data.toList k (j + 1), rfl⟩
            obtain ⟨d2, Hd2⟩ : ∃ d, Hid (d = Pl.D p.data.toList s.data.toList (k + 1) j) := ⟨Pl.D p.data.toList s.data.toList (k + 1) j, rfl⟩
            obtain ⟨d3, Hd3⟩ : ∃ d, Hid (d = (s[j] != 47)) := ⟨s[j] != 47, rfl⟩
            have hp1 : wr.cell? ⟨gp, j + 1, none⟩ = some (.bool d1) := by rw [Hd1.out]; exact hrp2.cell (i := j + 1) (by omega)
            have hc1 : wr.cell? ⟨gc, j, none⟩ = some (.bool d2) := by
              rw [Hd2.out]
              have := hrc2.cell (i := j) (by omega)
              simpa [tcell] using this
            obtain ⟨d4, hc2⟩ : ∃ d, wr.cell? ⟨gc, j + 1, none⟩ = some (.bool d) := ⟨_, hrc2.cell (i := j + 1) (by omega)⟩
            have hf1 := hrc2.frozen (j + 1)
            have h47 : ((s[j].toNat : Int) != 47) = d3 := by rw [Hd3.out, ch_slash]
            have hrow : ∀ v, v = (d1 || (d3 && d2)) → (wr.setCell ⟨gc, j + 1, none⟩ (.bool v)).rowIs gc 4 (s.size + 1) (tcell (fun x => if x ≤ j + 1 then Pl.D p.data.toList s.data.toList (k + 1) x else G x)) := by
              intro v hv
              refine (hrc2.set (j + 1) _).congr fun x hx => ?_
              by_cases e : x = j + 1
              · subst e; simp only [if_true, tcell, Nat.le_refl]; rw [HD.out, ← Hd1.out, ← Hd2.out, ← Hd3.out, hv]
              · rw [if_neg e]; simp only [tcell]
                by_cases e2 : x ≤ j
                · rw [if_pos e2, if_pos (by omega)]
                · rw [if_neg e2, if_neg (by omega)]
            have HR : Hid _ := hrow
            clear hrow
            cases d1 <;> cases d3 <;> cases d2
            all_goals
              go_wp2
              go_roundg (s.size - (j + 1))
              case measure => rw [Hgj.out]; omega
              case rel => exact ⟨j + 1, by omega, rfl, by go_num, hrp2.setOther (by simpa using hne) _, HR.out _ rfl, hbel2.setCell (p := ⟨gc, j + 1, none⟩) hgc _⟩
          · obtain rfl : j = s.size := by omega
            go_wp2
            go_roundg (p.size - (k + 1))
            case measure => rw [Hgk.out]; omega
            case rel =>
              refine ⟨k + 1, gc, gp, Pl.D p.data.toList s.data.toList k, by omega, rfl, by go_num, rfl, rfl, fun e => hne e.symm, hgc, hgp, ?_, hrp2, hbel2⟩
              exact hrc2.congr fun x hx => by simp only [tcell]; rw [if_pos (by omega)]
      · have h3 : ((p[k].toNat : Int) == 42) = false := by
          rw [Bool.eq_false_iff]; exact fun e => hst ((star_iff _).1 e)
        have HP : Hid (p.data.toList[k] ≠ 42) := hst
        clear hst hvk
        unfold tcell at hc0
        go_wp2
        go_loopg [10] s.size (fun gj jv wj => ∃ j : Nat, j ≤ s.size ∧ Hid (gj = s.size - j) ∧ jv = .int .i64 ((j : Int) + 1) ∧ wj.rowIs gp 4 (s.size + 1) (tcell (Pl.D p.data.toList s.data.toList k)) ∧
            wj.rowIs gc 4 (s.size + 1) (tcell (fun x => if x ≤ j then Pl.D p.data.toList s.data.toList (k + 1) x else G x)) ∧ Below w.heap.size w wj)
        case atStart =>
          refine ⟨0, Nat.zero_le _, rfl, rfl, hrp.setOther (by simpa using hne) _, ?_, hbel.setCell (p := ⟨gc, 0, none⟩) hgc _⟩
          refine (hrc.set 0 _).congr fun x hx => ?_
          by_cases e : x = 0
          · subst e; simp only [if_true, tcell, Nat.le_refl]; rw [Pl.D_ch_zero _ _ _ hk' HP.out]
          · rw [if_neg e]; simp only [tcell]; rw [if_neg (by omega)]
        case round =>
          obtain ⟨j, hj, Hgj, rfl, hrp2, hrc2, hbel2⟩ := hrel
          clear hp0 hc0 hf0 hrp hrc hbel
          by_cases hjl : j < s.size
          · have hj' : j < s.data.toList.length := by rw [HSL.out]; exact hjl
            have HD : Hid (Pl.D p.data.toList s.data.toList (k + 1) (j + 1) = (Pl.D p.data.toList s.data.toList k j && s[j] == p[k])) := Pl.D_ch _ _ _ _ hk' hj' HP.out
            obtain ⟨d1, Hd1⟩ : ∃ d, Hid (d = Pl.D p.data.toList s.data.toList k j) := ⟨Pl.D p.data.toList s.data.toList k j, rfl⟩
            obtain ⟨d3, Hd3⟩ : ∃ d, Hid (d = (s[j] == p[k])) := ⟨s[j] == p[k], rfl⟩
            have hp1 : wr.cell? ⟨gp, j, none⟩ = some (.bool d1) := by rw [Hd1.out]; exact hrp2.cell (i := j) (by omega)
            obtain ⟨d4, hc2⟩ : ∃ d, wr.cell? ⟨gc, j + 1, none⟩ = some (.bool d) := ⟨_, hrc2.cell (i := j + 1) (by omega)⟩
            have hf1 := hrc2.frozen (j + 1)
            have h47 : ((s[j].toNat : Int) == (p[k].toNat : Int)) = d3 := by rw [Hd3.out, ch_eq]
            have hrow : ∀ v, v = (d1 && d3) → (wr.setCell ⟨gc, j + 1, none⟩ (.bool v)).rowIs gc 4 (s.size + 1) (tcell (fun x => if x ≤ j + 1 then Pl.D p.data.toList s.data.toList (k + 1) x else G x)) := by
              intro v hv
              refine (hrc2.set (j + 1) _).congr fun x hx => ?_
              by_cases e : x = j + 1
              · subst e; simp only [if_true, tcell, Nat.le_refl]; rw [HD.out, ← Hd1.out, ← Hd3.out, hv]
              · rw [if_neg e]; simp only [tcell]
                by_cases e2 : x ≤ j
                · rw [if_pos e2, if_pos (by omega)]
                · rw [if_neg e2, if_neg (by omega)]
            have HR : Hid _ := hrow
            clear hrow
            cases d1 <;> cases d3
            all_goals
              go_wp2
              go_roundg (s.size - (j + 1))
              case measure => rw [Hgj.out]; omega
              case rel => exact ⟨j + 1, by omega, rfl, by go_num, hrp2.setOther (by simpa using hne) _, HR.out _ rfl, hbel2.setCell (p := ⟨gc, j + 1, none⟩) hgc _⟩
          · obtain rfl : j = s.size := by omega
            go_wp2
            go_roundg (p.size - (k + 1))
            case measure => rw [Hgk.out]; omega
            case rel =>
              refine ⟨k + 1, gc, gp, Pl.D p.data.toList s.data.toList k, by omega, rfl, by go_num, rfl, rfl, fun e => hne e.symm, hgc, hgp, ?_, hrp2, hbel2⟩
              exact hrc2.congr fun x hx => by simp only [tcell]; rw [if_pos (by omega)]
    · obtain rfl : k = p.size := by omega
      have hc := hrp.cell (i := s.size) (by omega)
      have HD : Hid _ := Pl.D_all p.data.toList s.data.toList
      rw [HPL.out, HSL.out] at HD
      go_wp2
      go_ret
      refine ⟨?_, hbel⟩
      rw [← HD.out]
      rfl
end Go.Proofs.Qxb6001183a
