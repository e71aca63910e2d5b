/-
  THE WALK of ZZNewPatternSet.
-/
import Derived.Test.Qxb6001183aNew
import Derived.Deep.DeepCutAuto
import Derived.Deep.RegionHeld3
import Derived.Deep.DrawnRows
import Derived.Deep.MidRow
import Derived.Deep.AppendLies
namespace Go.Proofs.Qxb6001183a
open Go.RowKit
set_option linter.unusedSimpArgs false
set_option linter.unusedVariables false

/-- The tables, as the law finds them. -/
structure Tabs (B : Nat) (S : Nat → ByteArray) (N W bf bl nm : Nat) (F : Nat → Nat → Bool) (G : Nat → Nat) (v : Value) (wc : World) : Prop where
  fam : Fam wc W (3 + nm) G F
  base : ∀ x, x < 3 + nm → B ≤ G x
  own : wc.ownsRow B 37 1 v nm ((List.range nm).map fun k => hdr (G (3 + k)) W)
  rf : wc.rowIs bf 3 N (icell (fstB S))
  rl : wc.rowIs bl 3 N (icell (lstB S))
  bfB : B ≤ bf
  blB : B ≤ bl

theorem Tabs.above {B : Nat} {S : Nat → ByteArray} {N W bf bl nm : Nat} {F : Nat → Nat → Bool} {G : Nat → Nat} {v : Value} {wc w' : World} (h : Tabs B S N W bf bl nm F G v wc) (hk : ∀ k, B ≤ k → k < wc.heap.size → w'.heap[k]? = wc.heap[k]?) : Tabs B S N W bf bl nm F G v w' := by
  refine ⟨h.fam.other fun x hx => hk _ (h.base x hx) (h.fam.1 x hx).lt, h.base, ⟨h.own.1, ?_⟩, h.rf.of_block (hk _ h.bfB h.rf.lt), h.rl.of_block (hk _ h.blB h.rl.lt), h.bfB, h.blB⟩
  rcases h.own.2 with h0 | ⟨g, cap, cur, hv, hg, hgg, rest⟩
  · exact .inl h0
  · exact .inr ⟨g, cap, cur, hv, hg, (hk g hg (Array.getElem?_eq_some_iff.1 hgg).1).trans hgg, rest⟩

theorem Tabs.lower {B B' : Nat} {S : Nat → ByteArray} {N W bf bl nm : Nat} {F : Nat → Nat → Bool} {G : Nat → Nat} {v : Value} {wc : World} (h : Tabs B S N W bf bl nm F G v wc) (hb : B' ≤ B) : Tabs B' S N W bf bl nm F G v wc := by
  refine ⟨h.fam, fun x hx => Nat.le_trans hb (h.base x hx), ⟨h.own.1, ?_⟩, h.rf, h.rl, Nat.le_trans hb h.bfB, Nat.le_trans hb h.blB⟩
  rcases h.own.2 with h0 | ⟨g, cap, cur, hv, hg, rest⟩
  · exact .inl h0
  · exact .inr ⟨g, cap, cur, hv, Nat.le_trans hb hg, rest⟩

theorem Only.trans {g : Nat} {w w1 w2 : World} (h : Only g w w1) (k : Only g w1 w2) : Only g w w2 := ⟨k.os.trans h.os, k.tape.trans h.tape, k.output.trans h.output, k.size.trans h.size, fun x hx => (k.block x hx).trans (h.block x hx)⟩
theorem only_setCells (g : Nat) : ∀ (vs : List Value) (o : Nat) (w : World), Only g w (w.setCells g o vs)
  | [], _, w => ⟨rfl, rfl, rfl, rfl, fun _ _ => rfl⟩
  | v :: vs, o, w => (only_set w g o v).trans (only_setCells g vs (o + 1) _)

/-- The array of classes. -/
def clsList (cls : Nat → Nat) : List Value := (List.range 256).map fun c => .int .u16 (cls c : Int)

theorem clsList_length (cls : Nat → Nat) : (clsList cls).length = 256 := by simp [clsList]
theorem clsList_get (cls : Nat → Nat) (c : Nat) (h : c < 256) : (clsList cls)[c]? = some (.int .u16 (cls c : Int)) := by simp [clsList, h]
theorem clsList_one (cls : Nat → Nat) : ∀ v ∈ clsList cls, v.oneCell' = true := by
  intro v hv
  simp only [clsList, List.mem_map] at hv
  obtain ⟨c, _, rfl⟩ := hv
  rfl

theorem PS.range {w : World} {b : Nat} {f0 f1 f3 f4 f5 f6 : Value} {cls : Nat → Nat} (h : PS w b f0 f1 cls f3 f4 f5 f6) : w.rangeAt b 2 (clsList cls) := by
  intro j v hv
  have hj : j < 256 := by
    have := (List.getElem?_eq_some_iff.1 hv).1
    rwa [clsList_length] at this
  rw [clsList_get cls j hj] at hv
  rw [h.cc hj]
  exact hv

theorem info35 : (Try.prog.info? 35).map (·.size) = some 256 := by kernel_rfl
/-- The zero array of classes. -/
def Z35 : Array Value := Array.replicate 256 (.int .u16 0)
theorem zero35 (w : World) : (zeroValue 35).run Try.prog w = .ok (.agg Z35) w := by kernel_rfl

/-- What ZZNewPatternSet leaves. -/
def ZZPost (w : World) (S : Nat → ByteArray) (N : Nat) (e : Ending) (w' : World) : Prop :=
  ∃ W bf bl nm cls G v, e = .returned (.tuple #[hdr bf N, hdr bl N, .agg (clsList cls).toArray, v, hdr (G 0) W, hdr (G 1) W, hdr (G 2) W]) ∧ W = (fstB S N + 63) / 64 ∧
    Tabs w.heap.size S N W bf bl nm (Pl.FF cls (Eall S N) (Yall S N) (Tall S N) (Nall S N)) G v w' ∧ Pl.CI cls nm (Eall S N) ∧ Below w.heap.size w w'

theorem results_cell {fn : Func} {a b c d e f g : Tmp} {t : TypeId} (h : fn.results = #[.tmp a, .tmp b, .cell c t, .tmp d, .tmp e, .tmp f, .tmp g]) (tmps : Array Value) (P : Program) (w : World) (x : Value) (p : Addr) (hp : tmps.getD c undef = .pointer (some p))
    (hl : (loadVar t p).run P w = .ok x w) {v : Value} (hv : v = .tuple #[tmps.getD a undef, tmps.getD b undef, x, tmps.getD d undef, tmps.getD e undef, tmps.getD f undef, tmps.getD g undef]) :
    (results fn tmps).run P w = .ok v w := by
  subst hv
  simp only [Array.getD_eq_getD_getElem?] at hp
  simp [results, h, hp, Sem.run_bind, hl, asAddr]

set_option maxHeartbeats 4000000 in
set_option maxRecDepth 100000 in
theorem zznew (a : Option Addr) (N cap : Nat) (S : Nat → ByteArray) (w : World) (hN : N ≤ 4096) (ht : tot S N ≤ 65536) (hS : OwnStrs 0 w a N S) :
    Calls Try.prog 17 #[.slice a N cap] w (ZZPost w S N) := by
  have hz := zero35
  go_enter Try.func17, Try.ntmps17
  go_wp2_with fail
  clear hz
  have hS1 : OwnStrs 0 (w.alloc (.cells Z35 35)) a N S := fun h => by
    obtain ⟨g, e, hb, hr⟩ := hS h
    exact ⟨g, e, hb, hr.alloc _⟩
  refine (new_any a N cap S _ hN ht hS1).mono ?_
  rintro e w1 ⟨W, bf, bl, bs, rfl, HW0, hbf, hbl, hbs, cls, nm, G, v, hG, hci⟩
  have HW : Hid _ := HW0
  have HCI : Hid _ := hci
  have hnm := hci.nm_le
  have hsz0 : (w.alloc (.cells Z35 35)).heap.size = w.heap.size + 1 := by simp
  rw [hsz0] at hbf hbl hbs
  have hne : bs ≠ w.heap.size := by omega
  have hne' : w.heap.size ≠ bs := by omega
  clear HW0 hci hS hS1 hsz0
  obtain ⟨gm, cp, rfl, _, _⟩ := hG.own.form (by omega)
  have hb4 : w1.heap[w.heap.size]? = some (.cells Z35 35 (0, 0)) := (hG.below.block w.heap.size (by simp)).trans (heap_alloc_new w _)
  have hthere : w1.there w.heap.size 0 256 := by
    intro j hj
    have : w1.cell? ⟨w.heap.size, 0 + j, none⟩ = some (.int .u16 0) := by simp [World.cell?, hb4, Z35, hj]
    exact ⟨by rw [this]; rfl, by simp [World.frozen?, hb4]⟩
  have hrange := hG.ps.range
  have c0 : w1.cell? ⟨bs, 0, none⟩ = some (.slice (some ⟨bf, 0, none⟩) N N) := hG.ps.c0
  have c1 : w1.cell? ⟨bs, 1, none⟩ = some (.slice (some ⟨bl, 0, none⟩) N N) := hG.ps.c1
  have c3 : w1.cell? ⟨bs, 258, none⟩ = some (.slice (some ⟨gm, 0, none⟩) nm cp) := hG.ps.c3
  have c4 : w1.cell? ⟨bs, 259, none⟩ = some (.slice (some ⟨G 0, 0, none⟩) W W) := hG.ps.c4
  have c5 : w1.cell? ⟨bs, 260, none⟩ = some (.slice (some ⟨G 1, 0, none⟩) W W) := hG.ps.c5
  have c6 : w1.cell? ⟨bs, 261, none⟩ = some (.slice (some ⟨G 2, 0, none⟩) W W) := hG.ps.c6
  have HG : Hid (StG _ S N W bf bl bs cls nm _ G _ w1) := hG
  obtain ⟨cs, Hcs⟩ : ∃ cs, Hid (cs = clsList cls) := ⟨clsList cls, rfl⟩
  rw [← Hcs.out] at hrange
  have hcl : cs.length = 256 := by rw [Hcs.out]; exact clsList_length cls
  have hone : ∀ v ∈ cs, v.oneCell' = true := by rw [Hcs.out]; exact clsList_one cls
  have hu := Try.underlying35
  have hi : (Try.prog.info? 35).map (·.size) = some cs.length := by rw [hcl]; exact info35
  clear hG hb4
  go_wp2
  have hk0 : Hid (w1.drew.cell? ⟨bs, 0, none⟩ = some (.slice (some ⟨bf, 0, none⟩) N N) ∧ w1.drew.cell? ⟨bs, 1, none⟩ = some (.slice (some ⟨bl, 0, none⟩) N N) ∧ w1.drew.cell? ⟨bs, 258, none⟩ = some (.slice (some ⟨gm, 0, none⟩) nm cp) ∧ w1.drew.cell? ⟨bs, 259, none⟩ = some (.slice (some ⟨G 0, 0, none⟩) W W) ∧ w1.drew.cell? ⟨bs, 260, none⟩ = some (.slice (some ⟨G 1, 0, none⟩) W W) ∧ w1.drew.cell? ⟨bs, 261, none⟩ = some (.slice (some ⟨G 2, 0, none⟩) W W) ∧ w1.drew.rangeAt bs 2 cs ∧ w1.drew.there w.heap.size 0 256) := ⟨c0, c1, c3, c4, c5, c6, hrange, hthere⟩
  have Hrg : Hid ((w1.drew.setCells w.heap.size 0 cs).rangeAt w.heap.size 0 cs) := World.rangeAt_setCells_same _ _ _ _ (by rw [hcl]; exact hthere)
  clear c0 c1 c3 c4 c5 c6 hrange hthere
  have hko : ∀ x : Addr, x.block = bs → (w1.drew.setCells w.heap.size 0 cs).cell? x = w1.drew.cell? x := fun x hx => World.cell?_setCells_out _ _ _ _ _ (fun h => absurd (hx.symm.trans h) hne)
  have hk1 : Hid ((w1.drew.setCells w.heap.size 0 cs).cell? ⟨bs, 0, none⟩ = some (.slice (some ⟨bf, 0, none⟩) N N) ∧ (w1.drew.setCells w.heap.size 0 cs).cell? ⟨bs, 1, none⟩ = some (.slice (some ⟨bl, 0, none⟩) N N) ∧ (w1.drew.setCells w.heap.size 0 cs).cell? ⟨bs, 258, none⟩ = some (.slice (some ⟨gm, 0, none⟩) nm cp) ∧ (w1.drew.setCells w.heap.size 0 cs).cell? ⟨bs, 259, none⟩ = some (.slice (some ⟨G 0, 0, none⟩) W W) ∧ (w1.drew.setCells w.heap.size 0 cs).cell? ⟨bs, 260, none⟩ = some (.slice (some ⟨G 1, 0, none⟩) W W) ∧ (w1.drew.setCells w.heap.size 0 cs).cell? ⟨bs, 261, none⟩ = some (.slice (some ⟨G 2, 0, none⟩) W W) ∧ (w1.drew.setCells w.heap.size 0 cs).rangeAt bs 2 cs ∧ (w1.drew.setCells w.heap.size 0 cs).there w.heap.size 0 256) := by
    obtain ⟨h0, h1, h3, h4, h5, h6, h7, h8⟩ := hk0.out
    exact ⟨(hko _ rfl).trans h0, (hko _ rfl).trans h1, (hko _ rfl).trans h3, (hko _ rfl).trans h4, (hko _ rfl).trans h5, (hko _ rfl).trans h6, World.rangeAt_setCells_apart h7 _ _ _ (Or.inl hne), World.there_setCells h8 _ _ _⟩
  clear hko
  go_region_held3 (fun w' => w'.cell? ⟨bs, 0, none⟩ = some (.slice (some ⟨bf, 0, none⟩) N N) ∧ w'.cell? ⟨bs, 1, none⟩ = some (.slice (some ⟨bl, 0, none⟩) N N) ∧ w'.cell? ⟨bs, 258, none⟩ = some (.slice (some ⟨gm, 0, none⟩) nm cp) ∧ w'.cell? ⟨bs, 259, none⟩ = some (.slice (some ⟨G 0, 0, none⟩) W W) ∧ w'.cell? ⟨bs, 260, none⟩ = some (.slice (some ⟨G 1, 0, none⟩) W W) ∧ w'.cell? ⟨bs, 261, none⟩ = some (.slice (some ⟨G 2, 0, none⟩) W W) ∧ w'.rangeAt bs 2 cs ∧ w'.there w.heap.size 0 256) (first | exact hk0.out | exact hk1.out) (fail)
  rename_i hHeld
  clear hHeld hk0 hk1
  go_wp2
  have hld := run_loadVar_mid (P := Try.prog) (w1.drew.setCells w.heap.size 0 cs) w.heap.size 0 35 cs _ Hrg.out Try.underlying35 rfl hi
  refine bodyPost_ret (v := .tuple #[hdr bf N, hdr bl N, .agg cs.toArray, .slice (some ⟨gm, 0, none⟩) nm cp, hdr (G 0) W, hdr (G 1) W, hdr (G 2) W]) (results_cell Try.results17 _ _ _ _ _ rfl hld rfl) rfl ?_
  have hG := HG.out
  have hsz0 : (w.alloc (.cells Z35 35)).heap.size = w.heap.size + 1 := by simp
  have hko : Only w.heap.size w1 (w1.drew.setCells w.heap.size 0 cs) := (show Only w.heap.size w1 w1.drew from ⟨rfl, rfl, rfl, rfl, fun _ _ => rfl⟩).trans (only_setCells _ _ _ _)
  refine ⟨W, bf, bl, nm, cls, G, _, by rw [Hcs.out], HW.out, ?_, HCI.out, ?_⟩
  · have hT : Tabs (w.heap.size + 1) S N W bf bl nm (Pl.FF cls (Eall S N) (Yall S N) (Tall S N) (Nall S N)) G (.slice (some ⟨gm, 0, none⟩) nm cp) w1 := ⟨hG.fam, fun x hx => hsz0 ▸ hG.base x hx, hsz0 ▸ hG.own, hG.rf, hG.rl, hbf, hbl⟩
    exact (hT.above fun k hk hk1 => hko.block k (by omega)).lower (by omega)
  · exact (((Below.refl w.heap.size w).alloc (Nat.le_refl _) _).trans (show Below w.heap.size _ _ from ⟨hG.below.os, hG.below.tape, hG.below.output, hG.below.size, fun k hk => hG.below.block k (by omega)⟩)).trans (hko.below (Nat.le_refl _))
end Go.Proofs.Qxb6001183a
