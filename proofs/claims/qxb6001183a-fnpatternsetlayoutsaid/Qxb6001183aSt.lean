/-
  newPatternSet's memory while it notes the patterns.
-/
import Derived.Test.Qxb6001183aPS
namespace Go.Proofs.Qxb6001183a
open Go.RowKit
set_option linter.unusedSimpArgs false
set_option linter.unusedVariables false

structure StG (w : World) (S : Nat → ByteArray) (N W bf bl bs : Nat) (cls : Nat → Nat) (nm : Nat) (F : Nat → Nat → Bool) (G : Nat → Nat) (v : Value) (wc : World) : Prop where
  fam : Fam wc W (3 + nm) G F
  base : ∀ x, x < 3 + nm → w.heap.size ≤ G x
  own : wc.ownsRow w.heap.size 37 1 v nm ((List.range nm).map fun k => hdr (G (3 + k)) W)
  ps : PS wc bs (hdr bf N) (hdr bl N) cls v (hdr (G 0) W) (hdr (G 1) W) (hdr (G 2) W)
  rf : wc.rowIs bf 3 N (icell (fstB S))
  rl : wc.rowIs bl 3 N (icell (lstB S))
  below : Below w.heap.size w wc

section
variable {w : World} {S : Nat → ByteArray} {N W bf bl bs : Nat} {cls : Nat → Nat} {nm : Nat} {F : Nat → Nat → Bool} {G : Nat → Nat} {v : Value} {wc w' : World}

theorem own_ne {B : Nat} {w : World} {v : Value} {n : Nat} {xs : List Value} {b t m : Nat} {f : Nat → Value} (h : w.ownsRow B 37 1 v n xs) (hr : w.rowIs b t m f) (ht : t ≠ 37) : v.ownBlock ≠ some b := by
  rcases h.2 with ⟨rfl, _⟩ | ⟨g, cap, cur, rfl, _, hg, _⟩
  · simp [Value.ownBlock]
  · obtain ⟨c, hc, _⟩ := hr
    intro e
    simp only [Value.ownBlock, Option.some.injEq] at e
    subst e
    rw [hg] at hc
    simp at hc
    exact ht hc.2.symm

theorem StG.setBit {x i : Nat} (h : StG w S N W bf bl bs cls nm F G v wc) (hx : x < 3 + nm) (hr : w'.rowIs (G x) 40 W (bcell (Pl.setF (F x) i))) (ho : Only (G x) wc w') :
    StG w S N W bf bl bs cls nm (updF F x i) G v w' :=
  have hrx := h.fam.1 x hx
  ⟨h.fam.setBit hx hr ho, h.base, ho.own (own_ne h.own hrx (by decide)) h.own, h.ps.of_block (ho.block _ (row_ne h.ps hrx (by decide))), ho.row (row_ne h.rf hrx (by decide)) h.rf, ho.row (row_ne h.rl hrx (by decide)) h.rl,
    h.below.trans (ho.below (h.base x hx))⟩

theorem StG.drew (h : StG w S N W bf bl bs cls nm F G v wc) : StG w S N W bf bl bs cls nm F G v wc.drew := ⟨h.fam, h.base, h.own, h.ps, h.rf, h.rl, h.below.drew⟩
theorem StG.drewN (h : StG w S N W bf bl bs cls nm F G v wc) (n : Nat) : StG w S N W bf bl bs cls nm F G v (wc.drewN n) := ⟨h.fam, h.base, h.own, h.ps, h.rf, h.rl, below_drewN h.below n⟩

theorem StG.congr {F' : Nat → Nat → Bool} (h : StG w S N W bf bl bs cls nm F G v wc) (e : ∀ x, x < 3 + nm → ∀ b, F x b = F' x b) : StG w S N W bf bl bs cls nm F' G v wc := { h with fam := h.fam.congr e }

theorem StG.setc (h : StG w S N W bf bl bs cls nm F G v wc) (hbs : w.heap.size ≤ bs) {c : Nat} (hc : c < 256) (k : Nat) : StG w S N W bf bl bs (Pl.setCls cls c k) nm F G v (wc.setCell ⟨bs, 2 + c, none⟩ (.int .u16 (k : Int))) :=
  have ho := only_set wc bs (2 + c) (.int .u16 (k : Int))
  ⟨h.fam.other fun x hx => ho.block _ (fun e => row_ne h.ps (h.fam.1 x hx) (by decide) e.symm), h.base, ho.own (own_ne h.own h.ps (by decide)) h.own, h.ps.setc hc k, ho.row (fun e => row_ne h.ps h.rf (by decide) e.symm) h.rf, ho.row (fun e => row_ne h.ps h.rl (by decide) e.symm) h.rl,
    h.below.trans (ho.below hbs)⟩

/-- One kind more: a new row in block g, its header put behind the others. -/
theorem StG.more {w1 w2 : World} {g : Nat} {v' : Value} (h : StG w S N W bf bl bs cls nm F G v wc) (hbs : w.heap.size ≤ bs)
    (hg : g = wc.heap.size) (hrow : w1.rowIs g 40 W (bcell (F (3 + nm)))) (hold : ∀ k, k < wc.heap.size → w1.heap[k]? = wc.heap[k]?) (hb1 : Below w.heap.size w w1)
    (hgrow : w1.grownBy w2 v.ownBlock) (hown : w2.ownsRow w.heap.size 37 1 v' (nm + 1) (((List.range nm).map fun k => hdr (G (3 + k)) W) ++ [hdr g W])) (hs1 : wc.heap.size < w1.heap.size) :
    StG w S N W bf bl bs cls (nm + 1) F (fun x => if x = 3 + nm then g else G x) v' (w2.setCell ⟨bs, 258, none⟩ v') := by
  have hlt : ∀ x, x < 3 + nm → G x < wc.heap.size := fun x hx => (h.fam.1 x hx).lt
  have hkeep : ∀ b, b < w1.heap.size → v.ownBlock ≠ some b → w2.heap[b]? = w1.heap[b]? := fun b hb hne => hgrow.block b hb (fun e => hne e.symm)
  have hfam2 : ∀ x, x < 3 + nm → w2.heap[G x]? = wc.heap[G x]? := fun x hx => (hkeep _ (Nat.lt_trans (hlt x hx) hs1) (own_ne h.own (h.fam.1 x hx) (by decide))).trans (hold _ (hlt x hx))
  have hvlt := h.own.lt
  have hgne : v.ownBlock ≠ some g := by
    intro e
    have := (hvlt g e).2
    omega
  have hrow2 : w2.rowIs g 40 W (bcell (F (3 + nm))) := hrow.of_block (hkeep g hrow.lt hgne)
  have hps2 : PS w2 bs (hdr bf N) (hdr bl N) cls v (hdr (G 0) W) (hdr (G 1) W) (hdr (G 2) W) := h.ps.of_block ((hkeep _ (Nat.lt_trans h.ps.lt hs1) (own_ne h.own h.ps (by decide))).trans (hold _ h.ps.lt))
  have hrf2 : w2.rowIs bf 3 N (icell (fstB S)) := h.rf.of_block ((hkeep _ (Nat.lt_trans h.rf.lt hs1) (own_ne h.own h.rf (by decide))).trans (hold _ h.rf.lt))
  have hrl2 : w2.rowIs bl 3 N (icell (lstB S)) := h.rl.of_block ((hkeep _ (Nat.lt_trans h.rl.lt hs1) (own_ne h.own h.rl (by decide))).trans (hold _ h.rl.lt))
  have ho := only_set w2 bs 258 v'
  have hb2 : Below w.heap.size w w2 := hb1.grown hgrow hb1.size (fun k hk => (hvlt k hk).1)
  have hfam3 := (h.fam.other hfam2).snoc (g := g) (fun x hx e => by have := hlt x hx; omega) hrow2
  have hsz : w.heap.size ≤ wc.heap.size := h.below.size
  have hlist : ((List.range (nm + 1)).map fun k => hdr (if 3 + k = 3 + nm then g else G (3 + k)) W) = ((List.range nm).map fun k => hdr (G (3 + k)) W) ++ [hdr g W] := by
    rw [List.range_succ, List.map_append]
    congr 1
    · apply List.map_congr_left
      intro k hk
      rw [List.mem_range] at hk
      rw [if_neg (by omega)]
    · simp
  have hfam4 : Fam (w2.setCell ⟨bs, 258, none⟩ v') W (3 + (nm + 1)) (fun x => if x = 3 + nm then g else G x) F := by
    refine Fam.other (w := w2) hfam3 fun x hx => ho.block _ (fun e => ?_)
    have hr := hfam3.1 x hx
    exact row_ne hps2 hr (by decide) e.symm
  refine ⟨hfam4, ?_, ?_, ?_, ?_, ?_, ?_⟩
  · intro x hx
    show w.heap.size ≤ (if x = 3 + nm then g else G x)
    split
    · omega
    · exact h.base x (by omega)
  · show (w2.setCell ⟨bs, 258, none⟩ v').ownsRow w.heap.size 37 1 v' (nm + 1) ((List.range (nm + 1)).map fun k => hdr (if 3 + k = 3 + nm then g else G (3 + k)) W)
    rw [hlist]
    exact ho.own (own_ne hown hps2 (by decide)) hown
  · show PS (w2.setCell ⟨bs, 258, none⟩ v') bs (hdr bf N) (hdr bl N) cls v' (hdr (if 0 = 3 + nm then g else G 0) W) (hdr (if 1 = 3 + nm then g else G 1) W) (hdr (if 2 = 3 + nm then g else G 2) W)
    rw [if_neg (by omega), if_neg (by omega), if_neg (by omega)]
    exact hps2.set3 v'
  · exact ho.row (fun e => row_ne hps2 hrf2 (by decide) e.symm) hrf2
  · exact ho.row (fun e => row_ne hps2 hrl2 (by decide) e.symm) hrl2
  · exact hb2.trans (ho.below hbs)

/-- The header of kind k's row. -/
theorem StG.head {gm cp k : Nat} (h : StG w S N W bf bl bs cls nm F G (.slice (some ⟨gm, 0, none⟩) nm cp) wc) (hk : k < nm) : wc.cell? ⟨gm, k, none⟩ = some (hdr (G (3 + k)) W) := by
  have := h.own.cells (g := gm) rfl k (hdr (G (3 + k)) W) (by simp [hk])
  have hadd : (⟨gm, 0, none⟩ : Addr).add k = ⟨gm, k, none⟩ := by unfold Addr.add; split <;> simp_all
  rw [hadd] at this
  exact this
end

/-- The five rows that are there at the start. -/
def G5 (x y z g0 g1 : Nat) (i : Nat) : Nat := if i = 0 then x else if i = 1 then y else if i = 2 then z else if i = 3 then g0 else g1

theorem zero_row {w : World} {g W : Nat} (h : w.rowIs g 40 W (fun _ => .int .u64 0)) (F : Nat → Bool) (hF : ∀ b, F b = false) : w.rowIs g 40 W (bcell F) :=
  h.congr fun q hq => by unfold bcell; rw [Pl.word_congr F (fun _ => false) q (fun j hj => hF _), Pl.word_zero]; rfl

/-- What stands behind the three rows that are made last. -/
theorem after13 {w W2 : World} {S : Nat → ByteArray} {W N bf bl bs g0 g1 bm : Nat} (h01 : g0 ≠ g1) (hg0 : w.heap.size ≤ g0) (hg1 : w.heap.size ≤ g1)
    (hr0 : W2.rowIs g0 40 W (fun _ => .int .u64 0)) (hr1 : W2.rowIs g1 40 W (fun _ => .int .u64 0)) (hown : W2.ownsRow w.heap.size 37 1 (.slice (some ⟨bm, 0, none⟩) 2 2) 2 [hdr g0 W, hdr g1 W])
    (hps : PS W2 bs (hdr bf N) (hdr bl N) (Pl.setCls (fun _ => 0) 47 1) (.slice (some ⟨bm, 0, none⟩) 2 2) (.slice none 0 0) (.slice none 0 0) (.slice none 0 0))
    (hrf : W2.rowIs bf 3 N (icell (pre N (fstB S)))) (hrl : W2.rowIs bl 3 N (icell (pre N (lstB S)))) (hb : Below w.heap.size w W2) (hbs : w.heap.size ≤ bs) (x y z : Nat)
    (hx : W2.heap.size ≤ x) (hx' : x < W2.heap.size + 3) (hy : W2.heap.size ≤ y) (hy' : y < W2.heap.size + 3) (hz : W2.heap.size ≤ z) (hz' : z < W2.heap.size + 3) (hxy : x ≠ y) (hxz : x ≠ z) (hyz : y ≠ z) :
    StG w S N W bf bl bs (Pl.setCls (fun _ => 0) 47 1) 2 (Pl.FF (Pl.setCls (fun _ => 0) 47 1) [] [] [] []) (G5 x y z g0 g1) (.slice (some ⟨bm, 0, none⟩) 2 2)
      ((((((W2.setCell ⟨bs, 259, none⟩ (.slice (some ⟨x, 0, none⟩) W W)).setCell ⟨bs, 260, none⟩ (.slice (some ⟨y, 0, none⟩) W W)).setCell ⟨bs, 261, none⟩ (.slice (some ⟨z, 0, none⟩) W W)).alloc (.cells (madeCells #[.int .u64 0] W) 40)).alloc (.cells (madeCells #[.int .u64 0] W) 40)).alloc (.cells (madeCells #[.int .u64 0] W) 40)).drew := by
  have hps' := ((((((hps.set4 (.slice (some ⟨x, 0, none⟩) W W)).set5 (.slice (some ⟨y, 0, none⟩) W W)).set6 (.slice (some ⟨z, 0, none⟩) W W)).alloc (.cells (madeCells #[.int .u64 0] W) 40)).alloc (.cells (madeCells #[.int .u64 0] W) 40)).alloc (.cells (madeCells #[.int .u64 0] W) 40))
  have hlt := hps.lt
  generalize hW3 : ((W2.setCell ⟨bs, 259, none⟩ (.slice (some ⟨x, 0, none⟩) W W)).setCell ⟨bs, 260, none⟩ (.slice (some ⟨y, 0, none⟩) W W)).setCell ⟨bs, 261, none⟩ (.slice (some ⟨z, 0, none⟩) W W) = W3 at *
  have hO : Only bs W2 W3 := by
    subst hW3
    refine ⟨rfl, rfl, rfl, by simp, fun k hk => ?_⟩
    rw [Below.heap_setCell _ _ _ _ (by simpa using hk), Below.heap_setCell _ _ _ _ (by simpa using hk), Below.heap_setCell _ _ _ _ (by simpa using hk)]
  clear hW3
  have hs3 : W3.heap.size = W2.heap.size := hO.size
  have r0 : ((((W3.alloc (.cells (madeCells #[.int .u64 0] W) 40)).alloc (.cells (madeCells #[.int .u64 0] W) 40)).alloc (.cells (madeCells #[.int .u64 0] W) 40))).rowIs W2.heap.size 40 W (fun _ => .int .u64 0) := by
    rw [← hs3]; exact ((World.rowIs_made W3 _ _ _).alloc _).alloc _
  have r1 : ((((W3.alloc (.cells (madeCells #[.int .u64 0] W) 40)).alloc (.cells (madeCells #[.int .u64 0] W) 40)).alloc (.cells (madeCells #[.int .u64 0] W) 40))).rowIs (W2.heap.size + 1) 40 W (fun _ => .int .u64 0) := by
    rw [← hs3]; exact (row_made_second W3 _ _ _ _).alloc _
  have r2 : ((((W3.alloc (.cells (madeCells #[.int .u64 0] W) 40)).alloc (.cells (madeCells #[.int .u64 0] W) 40)).alloc (.cells (madeCells #[.int .u64 0] W) 40))).rowIs (W2.heap.size + 2) 40 W (fun _ => .int .u64 0) := by
    have := row_made_second (W3.alloc (.cells (madeCells #[.int .u64 0] W) 40)) (.cells (madeCells #[.int .u64 0] W) 40) W (.int .u64 0) 40
    have e : (W3.alloc (.cells (madeCells #[.int .u64 0] W) 40)).heap.size = W2.heap.size + 1 := by simp [hs3]
    rw [e] at this
    exact this
  have hnew : ∀ q, W2.heap.size ≤ q → q < W2.heap.size + 3 → ((((W3.alloc (.cells (madeCells #[.int .u64 0] W) 40)).alloc (.cells (madeCells #[.int .u64 0] W) 40)).alloc (.cells (madeCells #[.int .u64 0] W) 40))).rowIs q 40 W (fun _ => .int .u64 0) := by
    intro q h1 h2
    rcases (show q = W2.heap.size ∨ q = W2.heap.size + 1 ∨ q = W2.heap.size + 2 from by omega) with rfl | rfl | rfl
    · exact r0
    · exact r1
    · exact r2
  have hl0 := hr0.lt
  have hl1 := hr1.lt
  have q0 : ((((W3.alloc (.cells (madeCells #[.int .u64 0] W) 40)).alloc (.cells (madeCells #[.int .u64 0] W) 40)).alloc (.cells (madeCells #[.int .u64 0] W) 40))).rowIs g0 40 W (fun _ => .int .u64 0) := (((hO.row (fun e => row_ne hps hr0 (by decide) e.symm) hr0).alloc _).alloc _).alloc _
  have q1 : ((((W3.alloc (.cells (madeCells #[.int .u64 0] W) 40)).alloc (.cells (madeCells #[.int .u64 0] W) 40)).alloc (.cells (madeCells #[.int .u64 0] W) 40))).rowIs g1 40 W (fun _ => .int .u64 0) := (((hO.row (fun e => row_ne hps hr1 (by decide) e.symm) hr1).alloc _).alloc _).alloc _
  have hFF : ∀ i b, Pl.FF (Pl.setCls (fun _ => 0) 47 1) [] [] [] [] i b = false := by
    intro i b; unfold Pl.FF; simp
  have hsz := hb.size
  refine ⟨⟨fun i hi => ?_, fun i j hi hj e => ?_⟩, fun i hi => ?_, ?_, hps', ?_, ?_, ?_⟩
  · refine zero_row ?_ _ (hFF i)
    rcases (show i = 0 ∨ i = 1 ∨ i = 2 ∨ i = 3 ∨ i = 4 from by omega) with rfl | rfl | rfl | rfl | rfl
    · exact hnew x hx hx'
    · exact hnew y hy hy'
    · exact hnew z hz hz'
    · exact q0
    · exact q1
  · unfold G5 at e
    rcases (show i = 0 ∨ i = 1 ∨ i = 2 ∨ i = 3 ∨ i = 4 from by omega) with rfl | rfl | rfl | rfl | rfl <;>
    rcases (show j = 0 ∨ j = 1 ∨ j = 2 ∨ j = 3 ∨ j = 4 from by omega) with rfl | rfl | rfl | rfl | rfl <;> simp at e <;> omega
  · unfold G5
    rcases (show i = 0 ∨ i = 1 ∨ i = 2 ∨ i = 3 ∨ i = 4 from by omega) with rfl | rfl | rfl | rfl | rfl <;> simp <;> omega
  · have := ((((hO.own (own_ne hown hps (by decide)) hown).alloc (.cells (madeCells #[.int .u64 0] W) 40)).alloc (.cells (madeCells #[.int .u64 0] W) 40)).alloc (.cells (madeCells #[.int .u64 0] W) 40))
    exact this
  · exact (((hO.row (fun e => row_ne hps hrf (by decide) e.symm) hrf).alloc _).alloc _).alloc _ |>.congr fun i hi => by unfold icell; rw [pre_all _ _ _ hi]
  · exact (((hO.row (fun e => row_ne hps hrl (by decide) e.symm) hrl).alloc _).alloc _).alloc _ |>.congr fun i hi => by unfold icell; rw [pre_all _ _ _ hi]
  · exact ((((hb.trans (hO.below hbs)).alloc (by omega) _).alloc (by simp; omega) _).alloc (by simp; omega) _).drew
end Go.Proofs.Qxb6001183a
