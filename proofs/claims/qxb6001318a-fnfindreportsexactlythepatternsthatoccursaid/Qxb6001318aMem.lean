/-
  ROWS IN MEMORY: what one append within the capacity does.
-/
import Derived.Test.Qxb6001318aSort
import Derived.Laws.AppendOwn
import Derived.OwnWalk
namespace Go.Proofs.Qxb6001318a
open Go.RowKit
set_option linter.unusedSimpArgs false
set_option linter.unusedVariables false

/-- Nothing but block g was written. -/
structure Only (g : Nat) (w w' : World) : Prop where
  os : w'.os = w.os
  tape : w'.tape = w.tape
  output : w'.output = w.output
  size : w'.heap.size = w.heap.size
  block : ∀ k, k ≠ g → w'.heap[k]? = w.heap[k]?

theorem Only.below {g B : Nat} {w w' : World} (h : Only g w w') (hB : B ≤ g) : Below B w w' :=
  ⟨h.os, h.tape, h.output, Nat.le_of_eq h.size.symm, fun k hk => h.block k (by omega)⟩
theorem Only.row {g b : Nat} {w w' : World} {t : TypeId} {n : Nat} {f : Nat → Value} (h : Only g w w') (hb : b ≠ g) (hr : w.rowIs b t n f) : w'.rowIs b t n f := hr.of_block (h.block b hb)
theorem only_set (w : World) (g o : Nat) (v : Value) : Only g w (w.setCell ⟨g, o, none⟩ v) :=
  ⟨rfl, rfl, rfl, by simp, fun k hk => Below.heap_setCell _ _ _ _ (by simpa using hk)⟩
theorem Only.trans {g : Nat} {w w1 w2 : World} (h : Only g w w1) (k : Only g w1 w2) : Only g w w2 := ⟨k.os.trans h.os, k.tape.trans h.tape, k.output.trans h.output, k.size.trans h.size, fun x hx => (k.block x hx).trans (h.block x hx)⟩
theorem only_setCells (g : Nat) : ∀ (vs : List Value) (o : Nat) (w : World), Only g w (w.setCells g o vs)
  | [], _, w => ⟨rfl, rfl, rfl, rfl, fun _ _ => rfl⟩
  | v :: vs, o, w => (only_set w g o v).trans (only_setCells g vs (o + 1) _)

/-- One element more, where there is room. -/
theorem append_one {P : Program} {w : World} {t e g k cap h : Nat} {ty : TypeId} {z : Value} {bytes : Nat} {f : Nat → Value} {v : Value} (ht : P.underlying t = some (.slice e)) (hi : (P.info? e).map (fun i => (i.zero, i.size, i.bytes)) = some (some z, 1, bytes))
    (hr : w.rowIs g e cap f) (hk : k < cap) (hv : w.cell? ⟨h, 0, none⟩ = some v) (h1 : v.oneCell' = true) :
    ∃ w', (Builtin.append_ #[t, t] ty #[.slice (some ⟨g, 0, none⟩) k cap, .slice (some ⟨h, 0, none⟩) 1 1]).run P w = .ok (.slice (some ⟨g, 0, none⟩) (k + 1) cap) w' ∧ w'.rowIs g e cap (fun j => if j = k then v else f j) ∧ Only g w w' := by
  obtain ⟨i, hi, _, hs, _⟩ := info_parts hi
  obtain ⟨c, hc, hcs, hcf⟩ := hr
  have hrun := run_append_room (P := P) w t ty e i ht hi g k cap c hc ⟨h, 0, none⟩ 1 1 [v] (by rw [hs]; rfl) (by
    intro j u hu
    cases j with
    | zero => simp at hu; subst hu; simpa [Addr.add] using hv
    | succ j => simp at hu) (by intro u hu; simp at hu; subst hu; exact h1) (by omega) (by rw [hs, hcs]; simp; omega)
  rw [hs, Nat.mul_one] at hrun
  refine ⟨_, hrun, ⟨_, setRow_heap w g c _ e (0, 0) hc, ?_, ?_⟩, ⟨rfl, rfl, rfl, by simp, fun k hk => setRow_other w g k _ hk⟩⟩
  · simp; omega
  · intro j hj
    rw [List.getElem?_toArray]
    show _ = some (if j = k then v else f j)
    have hlt : (c.toList.take k).length = k := by rw [List.length_take]; simp; omega
    by_cases e1 : j = k
    · subst e1
      rw [if_pos rfl, List.append_assoc, List.getElem?_append_right (by omega), hlt, Nat.sub_self]; rfl
    · rw [if_neg e1]
      by_cases e2 : j < k
      · rw [List.append_assoc, List.getElem?_append_left (by omega), List.getElem?_take_of_lt e2]
        rw [← hcf j hj]; simp
      · rw [List.getElem?_append_right (by rw [List.length_append, hlt]; simp; omega), List.length_append, hlt, List.getElem?_drop]
        rw [← hcf j hj]
        simp
        congr 1; omega

/-- .. as the walk meets it. -/
theorem wpList_append_one {P : Program} {w : World} {ops : Array Oper} {rest : List Oper} {o : Oper} {a : Act} {Q : Exit → Act → World → Prop}
    (hg : o.guard = none) (s x : Operand) (t : TypeId) (hop : o.op = Op.call { callee := Callee.builtin Builtin.append, args := #[s, x], argTypes := #[t, t] })
    (e : TypeId) (z : Value) (bytes : Nat) (ht : P.underlying t = some (.slice e)) (hi : (P.info? e).map (fun i => (i.zero, i.size, i.bytes)) = some (some z, 1, bytes))
    (g k cap h : Nat) (f : Nat → Value) (v : Value) (hs : a.eval s = .slice (some ⟨g, 0, none⟩) k cap) (hx : a.eval x = .slice (some ⟨h, 0, none⟩) 1 1)
    (hr : w.rowIs g e cap f) (hk : k < cap) (hv : w.cell? ⟨h, 0, none⟩ = some v) (h1 : v.oneCell' = true)
    (hK : ∀ w', w'.rowIs g e cap (fun j => if j = k then v else f j) → Only g w w' → wpList P ops Q rest (a.put o.dst (.slice (some ⟨g, 0, none⟩) (k + 1) cap)) w') :
    wpList P ops Q (o :: rest) a w := by
  refine wpList_plain hg fun K hK' => ?_
  obtain ⟨w', hrun, r1, r2⟩ := append_one (P := P) (ty := o.type) ht hi hr hk hv h1
  unfold Oper.wp
  simp [execOp, hop, resolve, invoke, builtin, hs, hx, hrun, Result.andThen]
  exact hK' _ _ (hK w' r1 r2)

/-- 'make([]T, 0, n)'. -/
theorem make_room {P : Program} (t e : TypeId) (z : Value) (bytes : Nat) (ht : P.underlying t = some (.slice e)) (hi : (P.info? e).map (fun i => (i.zero, i.size, i.bytes)) = some (some z, 1, bytes)) (hz : z.cells = #[z]) (n : Nat) (hb : bytes * n ≤ 281474976710656) (hn : n ≤ maxLen) (w : World) :
    (Instr.makeSlice t (.int .i64 0) (.int .i64 (n : Int))).run P w = .ok (.slice (some ⟨w.heap.size, 0, none⟩) 0 n) (w.alloc (.cells (madeCells #[z] n) e)) := by
  obtain ⟨i, hi, hz0, hs, hb0⟩ := info_parts hi
  have h63' : (n : Int) ≤ 9223372036854775807 := by
    have h := hn
    simp [maxLen] at h
    omega
  have hb' : (i.bytes : Int) * (n : Int) ≤ 281474976710656 := by
    have h : ((i.bytes * n : Nat) : Int) ≤ 281474976710656 := by rw [hb0]; omega
    rwa [Int.natCast_mul] at h
  have hr := run_make (P := P) w t e i z ht hi hz0 .i64 .i64 0 n (Int.le_refl _) (by omega) hb' h63'
  simp only [Int.toNat_zero, Int.toNat_natCast, hz, hs, Nat.mul_one] at hr
  exact hr
end Go.Proofs.Qxb6001318a
