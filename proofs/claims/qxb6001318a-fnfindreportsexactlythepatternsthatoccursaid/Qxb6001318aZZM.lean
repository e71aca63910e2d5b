/-
  THE WALK of ZZMatcher.
-/
import Derived.Test.Qxb6001318aZZLay
import Derived.Deep.WholeRow
namespace Go.Proofs.Qxb6001318a
open Go.RowKit
set_option linter.unusedSimpArgs false
set_option linter.unusedVariables false

theorem info47 : (Try.prog.info? 47).map (·.size) = some 256 := by kernel_rfl

/-- Where a Matcher's fields lie, and how many cells each has. -/
def PL49 : Array (Nat × Nat) := #[(0, 1), (1, 1), (2, 1), (3, 1), (4, 256), (260, 1), (261, 1)]

theorem places49 (w : World) : (do
    match ← underlying 49 with
    | .struct fields => fields.mapM fun f => do pure (f.offset, ← sizeOf f.type)
    | _ => pure #[] : Sem (Array (Nat × Nat))).run Try.prog w = .ok PL49 w := by kernel_rfl
theorem build_of {parts : Array (Nat × Value)} {cells : Array Value} {w : World} (h : Instr.fill (fun i => PL49[i]?) Z49 parts.toList = some cells) : (Instr.build 49 parts).run Try.prog w = .ok (.agg cells) w := by
  have hp := places49 w
  unfold Instr.build
  simp only [Sem.run_bind, zero49, Result.andThen] at hp ⊢
  rw [run_underlying Try.underlying49] at hp ⊢
  dsimp only at hp ⊢
  simp only [Sem.run_bind, hp, Result.andThen]
  have hz : (Value.agg Z49).cells = Z49 := rfl
  rw [hz]
  have h' : Instr.fill (fun x => PL49[x]?) Z49 parts.toList = some cells := h
  rw [h']
  rfl

theorem wp_pure {P : Program} {o : Oper} {a : Act} {w : World} {K : Act → World → Prop} {Q : Exit → Act → World → Prop} (v : Value) (hs : execOp a.eval o = pure (.value v)) (hK : K (a.put o.dst v) w) : Oper.wp P o a w K Q := by
  unfold Oper.wp
  rw [hs]
  exact hK

theorem wp_val {P : Program} {o : Oper} {a : Act} {w w' : World} {K : Act → World → Prop} {Q : Exit → Act → World → Prop} {v : Value} (s : Sem Value) (hs : execOp a.eval o = (do pure (.value (← s)))) (hr : s.run P w = .ok v w') (hK : K (a.put o.dst v) w') : Oper.wp P o a w K Q := by
  unfold Oper.wp
  rw [hs, Sem.run_bind, hr]
  exact hK

/-- Cells laid in a row, one behind the other. -/
def lay1 (off : Nat) : Nat → List Value → Array Value → Array Value
  | _, [], cs => cs
  | j, c :: l, cs => lay1 off (j + 1) l (cs.setIfInBounds (off + j) c)

theorem lay1_fold (off : Nat) : ∀ (l : List Value) (j : Nat) (cs : Array Value), (l.zipIdx j).foldl (fun cs (x : Value × Nat) => cs.setIfInBounds (off + x.2) x.1) cs = lay1 off j l cs
  | [], _, _ => rfl
  | c :: l, j, cs => by rw [List.zipIdx_cons, List.foldl_cons, lay1_fold off l]; rfl

theorem lay1_size (off : Nat) : ∀ (l : List Value) (j : Nat) (cs : Array Value), (lay1 off j l cs).size = cs.size
  | [], _, _ => rfl
  | c :: l, j, cs => by rw [lay1, lay1_size off l]; simp

theorem lay1_get (off : Nat) : ∀ (l : List Value) (j : Nat) (cs : Array Value), off + j + l.length ≤ cs.size → ∀ i, (lay1 off j l cs)[i]? = if off + j ≤ i ∧ i < off + j + l.length then l[i - (off + j)]? else cs[i]?
  | [], j, cs, _, i => by
    rw [lay1]
    have : ¬ (off + j ≤ i ∧ i < off + j + ([] : List Value).length) := by simp only [List.length_nil]; omega
    rw [if_neg this]
  | c :: l, j, cs, h, i => by
    simp only [List.length_cons] at h
    rw [lay1, lay1_get off l (j + 1) _ (by simp; omega) i]
    by_cases e : i = off + j
    · subst e
      have h1 : ¬ (off + (j + 1) ≤ off + j ∧ off + j < off + (j + 1) + l.length) := by omega
      have h2 : off + j ≤ off + j ∧ off + j < off + j + (c :: l).length := by simp
      rw [if_neg h1, if_pos h2, Nat.sub_self, Array.getElem?_setIfInBounds_self_of_lt (by omega)]; rfl
    · by_cases h1 : off + (j + 1) ≤ i ∧ i < off + (j + 1) + l.length
      · have h2 : off + j ≤ i ∧ i < off + j + (c :: l).length := by simp only [List.length_cons]; omega
        rw [if_pos h1, if_pos h2]
        have e3 : i - (off + j) = (i - (off + (j + 1))) + 1 := by omega
        rw [e3, List.getElem?_cons_succ]
      · have h2 : ¬ (off + j ≤ i ∧ i < off + j + (c :: l).length) := by simp only [List.length_cons]; omega
        rw [if_neg h1, if_neg h2, Array.getElem?_setIfInBounds_ne (by omega)]

theorem fold_array (off : Nat) (R cs : Array Value) : R.zipIdx.foldl (fun cs (x : Value × Nat) => cs.setIfInBounds (off + x.2) x.1) cs = lay1 off 0 R.toList cs := by
  rw [← lay1_fold, ← Array.foldl_toList, Array.toList_zipIdx]

/-- A Matcher's cells. -/
def mcells (a b c d : Value) (R : Array Value) (e f : Value) : Array Value :=
  ((lay1 4 0 R.toList ((((Z49.setIfInBounds 0 a).setIfInBounds 1 b).setIfInBounds 2 c).setIfInBounds 3 d)).setIfInBounds 260 e).setIfInBounds 261 f

theorem mcells_size (a b c d : Value) (R : Array Value) (e f : Value) : (mcells a b c d R e f).size = 262 := by
  unfold mcells
  simp [lay1_size, Z49_size]

theorem fill49 (a b c d e f : Value) (R : Array Value) (ha : a.cells = #[a]) (hb : b.cells = #[b]) (hc : c.cells = #[c]) (hd : d.cells = #[d]) (he : e.cells = #[e]) (hf : f.cells = #[f]) (hR : R.size = 256) :
    Instr.fill (fun i => PL49[i]?) Z49 [(0, a), (1, b), (2, c), (3, d), (4, .agg R), (5, e), (6, f)] = some (mcells a b c d R e f) := by
  have hcR : (Value.agg R).cells = R := rfl
  have hz := Z49_size
  have f1 : ∀ (off : Nat) (v : Value) (cs : Array Value), (#[v].zipIdx.foldl (fun cs (x : Value × Nat) => cs.setIfInBounds (off + x.2) x.1) cs) = cs.setIfInBounds off v := fun off v cs => by rw [fold_array]; rfl
  simp only [Instr.fill, PL49, ha, hb, hc, hd, he, hf, hcR, hR, f1, fold_array]
  simp [hz, lay1_size, hR, mcells]

/-- .. by their places. -/
def mcell (a b c d : Value) (R : Array Value) (e f : Value) (j : Nat) : Value :=
  if j = 0 then a else if j = 1 then b else if j = 2 then c else if j = 3 then d else if j = 260 then e else if j = 261 then f else R.getD (j - 4) (.int .i32 0)

theorem mcells_get (a b c d : Value) (R : Array Value) (e f : Value) (hR : R.size = 256) (j : Nat) (hj : j < 262) : (mcells a b c d R e f)[j]? = some (mcell a b c d R e f j) := by
  unfold mcells mcell
  have hz := Z49_size
  by_cases h6 : j = 261
  · subst h6; rw [Array.getElem?_setIfInBounds_self_of_lt (by simp [lay1_size, hz])]; rfl
  rw [Array.getElem?_setIfInBounds_ne (by omega)]
  by_cases h5 : j = 260
  · subst h5; rw [Array.getElem?_setIfInBounds_self_of_lt (by simp [lay1_size, hz])]; rfl
  rw [Array.getElem?_setIfInBounds_ne (by omega), lay1_get 4 _ 0 _ (by simp [hz, hR])]
  by_cases h4 : 4 ≤ j
  · rw [if_pos (by simp [hR]; omega)]
    have e0 : j ≠ 0 := by omega
    have e1 : j ≠ 1 := by omega
    have e2 : j ≠ 2 := by omega
    have e3 : j ≠ 3 := by omega
    simp only [e0, e1, e2, e3, h5, h6, if_false]
    rw [Array.getElem?_toList, Array.getD_eq_getD_getElem?, Array.getElem?_eq_getElem (by omega)]; rfl
  · rw [if_neg (by omega)]
    by_cases e3 : j = 3
    · subst e3; rw [Array.getElem?_setIfInBounds_self_of_lt (by simp [hz])]; rfl
    rw [Array.getElem?_setIfInBounds_ne (by omega)]
    by_cases e2 : j = 2
    · subst e2; rw [Array.getElem?_setIfInBounds_self_of_lt (by simp [hz])]; rfl
    rw [Array.getElem?_setIfInBounds_ne (by omega)]
    by_cases e1 : j = 1
    · subst e1; rw [Array.getElem?_setIfInBounds_self_of_lt (by simp [hz])]; rfl
    rw [Array.getElem?_setIfInBounds_ne (by omega)]
    have e0 : j = 0 := by omega
    subst e0; rw [Array.getElem?_setIfInBounds_self_of_lt (by simp [hz])]; rfl

theorem row_m (w : World) (a b c d : Value) (R : Array Value) (e f : Value) (hR : R.size = 256) : (w.alloc (.cells (mcells a b c d R e f) 49)).rowIs w.heap.size 49 262 (mcell a b c d R e f) := by
  have h := World.rowIs_alloc w (mcells a b c d R e f) 49 (mcell a b c d R e f) (fun i hi => mcells_get a b c d R e f hR i (by rw [mcells_size] at hi; exact hi))
  rw [mcells_size] at h
  exact h

/-- What ZZMatcher leaves. -/
def ZZMPost (w : World) (a b c d : Value) (R : Array Value) (e f : Value) (x : Ending) (w' : World) : Prop :=
  ∃ gm, x = .returned (.pointer (some ⟨gm, 0, none⟩)) ∧ w.heap.size ≤ gm ∧ w'.rowIs gm 49 262 (mcell a b c d R e f) ∧ Below w.heap.size w w'

set_option maxRecDepth 100000 in
set_option maxHeartbeats 1000000 in
theorem zzMatcher_any (a0 a1 a2 a3 a5 a6 : Option Addr) (n0 n1 n2 n3 n5 n6 c0 c1 c2 c3 c5 c6 : Nat) (R : Array Value) (w : World) (hR : R.size = 256) :
    Calls Try.prog 23 #[.slice a0 n0 c0, .slice a1 n1 c1, .slice a2 n2 c2, .slice a3 n3 c3, .agg R, .slice a5 n5 c5, .slice a6 n6 c6] w (ZZMPost w (.slice a0 n0 c0) (.slice a1 n1 c1) (.slice a2 n2 c2) (.slice a3 n3 c3) R (.slice a5 n5 c5) (.slice a6 n6 c6)) := by
  have HLd : Hid _ := run_loadAt_new (P := Try.prog) w 47 R 256 21 Try.underlying47 (by rw [hR]; exact info47)
  have HR : Hid _ := hR
  clear hR
  go_enter Try.func23, Try.ntmps23
  go_upto_region 1 with fail
  go_wp2_with fail
  refine wp_val _ rfl HLd.out ?_
  rename_i hKK
  refine hKK _ _ ?_
  refine wpList_plain rfl fun K1 hK1 => wp_pure _ rfl (hK1 _ _ ?_)
  refine wpList_plain rfl fun K2 hK2 => wp_pure _ rfl (hK2 _ _ ?_)
  refine wpList_plain rfl fun K3 hK3 => wp_val (Instr.build 49 #[(0, .slice a0 n0 c0), (1, .slice a1 n1 c1), (2, .slice a2 n2 c2), (3, .slice a3 n3 c3), (4, .agg R), (5, .slice a5 n5 c5), (6, .slice a6 n6 c6)]) (by simp [execOp, go_sem]) (build_of (fill49 (.slice a0 n0 c0) (.slice a1 n1 c1) (.slice a2 n2 c2) (.slice a3 n3 c3) (.slice a5 n5 c5) (.slice a6 n6 c6) R rfl rfl rfl rfl rfl rfl HR.out)) (hK3 _ _ ?_)
  have hms := mcells_size (.slice a0 n0 c0) (.slice a1 n1 c1) (.slice a2 n2 c2) (.slice a3 n3 c3) R (.slice a5 n5 c5) (.slice a6 n6 c6)
  have hrow := row_m (w.alloc (.cells R 47)) (.slice a0 n0 c0) (.slice a1 n1 c1) (.slice a2 n2 c2) (.slice a3 n3 c3) R (.slice a5 n5 c5) (.slice a6 n6 c6) HR.out
  have esz : (w.alloc (.cells R 47)).heap.size = w.heap.size + 1 := by simp
  rw [esz] at hrow
  have HRow : Hid _ := hrow
  clear hrow esz
  generalize mcells (.slice a0 n0 c0) (.slice a1 n1 c1) (.slice a2 n2 c2) (.slice a3 n3 c3) R (.slice a5 n5 c5) (.slice a6 n6 c6) = mc at HRow hms ⊢
  have hz1 : ¬ mc = #[] := by intro e; rw [e] at hms; cases hms
  go_wp2
  go_ret
  exact ⟨_, rfl, by simp, HRow.out, ((Below.refl _ w).alloc (Nat.le_refl _) _).alloc (by simp) _⟩
end Go.Proofs.Qxb6001318a
