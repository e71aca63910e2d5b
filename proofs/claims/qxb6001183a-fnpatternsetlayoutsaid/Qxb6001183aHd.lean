/-
  What the laws hold in hand behind ZZNewPatternSet.
-/
import Derived.Test.Qxb6001183aZZNew
namespace Go.Proofs.Qxb6001183a
open Go.RowKit
set_option linter.unusedSimpArgs false
set_option linter.unusedVariables false

/-- A cell of the kind table. -/
def ucell (cls : Nat → Nat) (c : Nat) : Value := .int .u16 (cls c : Int)

/-- Behind the call: the patterns' copies, the tables, the kind array. -/
structure Hd (B : Nat) (S : Nat → ByteArray) (N W : Nat) (a0 : Option Addr) (bf bl bc nm gm cp : Nat) (cls : Nat → Nat) (F : Nat → Nat → Bool) (G : Nat → Nat) (w2 : World) : Prop where
  strs : OwnStrs 0 w2 a0 N S
  tabs : Tabs B S N W bf bl nm F G (.slice (some ⟨gm, 0, none⟩) nm cp) w2
  cl : w2.rowIs bc 35 256 (ucell cls)

section
variable {B : Nat} {S : Nat → ByteArray} {N W : Nat} {a0 : Option Addr} {bf bl bc nm gm cp : Nat} {cls : Nat → Nat} {F : Nat → Nat → Bool} {G : Nat → Nat} {w2 wr : World}

theorem Hd.to (h : Hd B S N W a0 bf bl bc nm gm cp cls F G w2) (hb : Below w2.heap.size w2 wr) : Hd B S N W a0 bf bl bc nm gm cp cls F G wr :=
  ⟨fun hp => let ⟨g, e, hB, hr⟩ := h.strs hp; ⟨g, e, hB, hr.of_block (hb.block _ hr.lt)⟩, h.tabs.above fun k _ hk => hb.block k hk, h.cl.of_block (hb.block _ h.cl.lt)⟩

theorem Hd.first (h : Hd B S N W a0 bf bl bc nm gm cp cls F G w2) {i : Nat} (hi : i < N) : w2.cell? ⟨bf, i, none⟩ = some (.int .i64 (fstB S i : Int)) := h.tabs.rf.cell hi
theorem Hd.last (h : Hd B S N W a0 bf bl bc nm gm cp cls F G w2) {i : Nat} (hi : i < N) : w2.cell? ⟨bl, i, none⟩ = some (.int .i64 (lstB S i : Int)) := h.tabs.rl.cell hi
theorem Hd.clsAt (h : Hd B S N W a0 bf bl bc nm gm cp cls F G w2) {c : Nat} (hc : c < 256) : w2.cell? ⟨bc, c, none⟩ = some (.int .u16 (cls c : Int)) := h.cl.cell hc
theorem Hd.row (h : Hd B S N W a0 bf bl bc nm gm cp cls F G w2) {x q : Nat} (hx : x < 3 + nm) (hq : q < W) : w2.cell? ⟨G x, q, none⟩ = some (.int .u64 (Pl.word (F x) q : Int)) := (h.tabs.fam.1 x hx).cell hq
theorem Hd.mv (h : Hd B S N W a0 bf bl bc nm gm cp cls F G w2) {k : Nat} (hk : k < nm) : w2.cell? ⟨gm, k, none⟩ = some (.slice (some ⟨G (3 + k), 0, none⟩) W W) := by
  have := h.tabs.own.cells (g := gm) rfl k (hdr (G (3 + k)) W) (by simp [hk])
  rw [Addr.add_mid] at this
  simpa [hdr] using this
theorem Hd.str (h : Hd B S N W a0 bf bl bc nm gm cp cls F G w2) (hN : 0 < N) : ∃ g, a0 = some ⟨g, 0, none⟩ ∧ w2.rowIs g 9 N (scell S) := let ⟨g, e, _, hr⟩ := h.strs hN; ⟨g, e, hr⟩
end

theorem setCells_row (w : World) (cs : List Value) (hl : cs.length = 256) (f : Nat → Value) (hf : ∀ c, c < 256 → cs[c]? = some (f c)) : ((w.alloc (.cells Z35 35)).setCells w.heap.size 0 cs).rowIs w.heap.size 35 256 f := by
  have h0 : (w.alloc (.cells Z35 35)).rowIs w.heap.size 35 256 (fun _ => .int .u16 0) := ⟨Z35, by rw [heap_alloc_new], by simp [Z35], by intro i hi; simp [Z35, hi]⟩
  have key : ∀ (vs : List Value) (o : Nat) (W : World) (g : Nat → Value), W.rowIs w.heap.size 35 256 g → (W.setCells w.heap.size o vs).rowIs w.heap.size 35 256 (fun j => if o ≤ j ∧ j < o + vs.length then vs[j - o]?.getD default else g j) := by
    intro vs
    induction vs with
    | nil => intro o W g h; exact h.congr fun j hj => by rw [if_neg]; simp
    | cons v vs ih =>
      intro o W g h
      refine (ih (o + 1) _ _ (h.set o v)).congr fun j hj => ?_
      by_cases e : j = o
      · subst e
        rw [if_neg (by omega), if_pos rfl, if_pos (by simp)]
        simp
      · by_cases e2 : o + 1 ≤ j ∧ j < o + 1 + vs.length
        · rw [if_pos e2, if_pos (by simp; omega), show j - o = (j - (o + 1)) + 1 from by omega]
          simp
        · rw [if_neg e2, if_neg e, if_neg (by simp; omega)]
  refine (key cs 0 _ _ h0).congr fun j hj => ?_
  rw [if_pos (by omega), Nat.sub_zero, hf j hj]; rfl

/-- The head of both laws. -/
theorem hd_made {w1 : World} {B : Nat} {S : Nat → ByteArray} {N W : Nat} {a0 : Option Addr} {bf bl nm gm cp : Nat} {cls : Nat → Nat} {F : Nat → Nat → Bool} {G : Nat → Nat} (hs : OwnStrs 0 w1 a0 N S) (ht : Tabs B S N W bf bl nm F G (.slice (some ⟨gm, 0, none⟩) nm cp) w1) :
    Hd B S N W a0 bf bl w1.heap.size nm gm cp cls F G ((w1.alloc (.cells Z35 35)).setCells w1.heap.size 0 (clsList cls)) := by
  have hb : Below w1.heap.size w1 ((w1.alloc (.cells Z35 35)).setCells w1.heap.size 0 (clsList cls)) := ((Below.refl _ _).alloc (Nat.le_refl _) _).trans ((only_setCells _ _ _ _).below (Nat.le_refl _))
  exact ⟨fun hp => let ⟨g, e, hB, hr⟩ := hs hp; ⟨g, e, hB, hr.of_block (hb.block _ hr.lt)⟩, ht.above fun k _ hk => hb.block k hk, setCells_row w1 _ (clsList_length cls) _ fun c hc => clsList_get cls c hc⟩

theorem there35 (w : World) : (w.alloc (.cells Z35 35)).there w.heap.size 0 256 := by
  have h0 : (w.alloc (.cells Z35 35)).rowIs w.heap.size 35 256 (fun _ => .int .u16 0) := ⟨Z35, by rw [heap_alloc_new], by simp [Z35], by intro i hi; simp [Z35, hi]⟩
  intro j hj
  rw [Nat.zero_add]
  exact ⟨by rw [h0.cell hj]; rfl, h0.frozen j⟩

theorem store35 (w : World) (cls : Nat → Nat) : (Instr.storeAt 35 (.pointer (some ⟨w.heap.size, 0, none⟩)) (.agg (clsList cls).toArray)).run Try.prog (w.alloc (.cells Z35 35)) = .ok () ((w.alloc (.cells Z35 35)).setCells w.heap.size 0 (clsList cls)) := by
  have hs : (clsList cls).toArray.size = 256 := by simp [clsList_length]
  exact run_storeAt_mid _ _ _ _ _ (by rw [hs]; exact there35 w) (by rw [hs]; exact info35) (all_oneCell_toArray (clsList_one cls))

theorem storeC35 (w : World) (cls : Nat → Nat) : (storeCells ⟨w.heap.size, 0, none⟩ (clsList cls)).run Try.prog (w.alloc (.cells Z35 35)) = .ok () ((w.alloc (.cells Z35 35)).setCells w.heap.size 0 (clsList cls)) := by
  have := run_storeCells_cells (P := Try.prog) w.heap.size 0 (clsList cls) 0 (w.alloc (.cells Z35 35)) (fun j hj => by
    rw [clsList_length] at hj
    simpa using (there35 w j hj).1) (fun j hj => by
    rw [clsList_length] at hj
    simp) (clsList_one cls)
  simpa using this
end Go.Proofs.Qxb6001183a
