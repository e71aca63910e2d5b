/-
  THE WALK of newPatternSet.
-/
import Derived.Test.Qxb6001183aNoted
import Derived.Deep.DeepCutAuto
import Derived.Deep.RegionHeld3
import Derived.Deep.DrawnRows
import Derived.Deep.AppendLies
import Derived.Deep.RegionLaw
import Derived.Deep.Light
namespace Go.Proofs.Qxb6001183a
open Go.RowKit
set_option linter.unusedSimpArgs false
set_option linter.unusedVariables false

theorem row_made_first (w : World) (o : Obj) (n : Nat) (z : Value) (t : TypeId) : ((w.alloc (.cells (madeCells #[z] n) t)).alloc o).rowIs w.heap.size t n (fun _ => z) := (World.rowIs_made w z n t).alloc o

theorem wrap_last (a b c d : Nat) (h1 : a + b ≤ 1000000) (h2 : c ≤ b) (h3 : d + c = a + b) : IntKind.i64.wrap (IntKind.i64.wrap ((a : Int) + (b : Int)) - (c : Int)) = (d : Int) := by
  have e : IntKind.i64.wrap ((a : Int) + (b : Int)) = (a : Int) + (b : Int) := by rw [IntKind.wrap_i64]; omega
  rw [e, IntKind.wrap_i64]; omega

theorem ps_made2 (w : World) (o1 o2 : Obj) (f0 f1 : Value) : PS (((w.alloc o1).alloc o2).alloc (.cells ((Z51.setIfInBounds 0 f0).setIfInBounds 1 f1) 51)) (w.heap.size + 1 + 1) f0 f1 (fun _ => 0) (.slice none 0 0) (.slice none 0 0) (.slice none 0 0) (.slice none 0 0) := by
  have h := ps_made ((w.alloc o1).alloc o2) f0 f1
  have e : ((w.alloc o1).alloc o2).heap.size = w.heap.size + 1 + 1 := by simp
  rw [e] at h
  exact h

theorem below3 (w : World) (o1 o2 o3 : Obj) : Below w.heap.size w (((w.alloc o1).alloc o2).alloc o3) :=
  (((Below.refl _ _).alloc (Nat.le_refl _) _).alloc (by simp) _).alloc (by simp; omega) _

theorem old_cell {W : World} {o : Obj} {b i : Nat} (h : b < W.heap.size) : (W.alloc o).cell? ⟨b, i, none⟩ = W.cell? ⟨b, i, none⟩ := World.cell?_of_block (w := W) (heap_alloc_old W o h)
theorem old_frozen {W : World} {o : Obj} {b i : Nat} (h : b < W.heap.size) : (W.alloc o).frozen? ⟨b, i, none⟩ = W.frozen? ⟨b, i, none⟩ := World.frozen?_of_block (w := W) (heap_alloc_old W o h)

/-- What stands behind 's.moves = [][]uint64{make(..), make(..)}'. -/
def After12 (w : World) (S : Nat → ByteArray) (W k bf bl bs : Nat) (wc : World) : Prop := ∃ g0 g1 bm : Nat, g0 ≠ g1 ∧ w.heap.size ≤ g0 ∧ w.heap.size ≤ g1 ∧ wc.rowIs g0 40 W (fun _ => .int .u64 0) ∧ wc.rowIs g1 40 W (fun _ => .int .u64 0) ∧
            wc.ownsRow w.heap.size 37 1 (.slice (some ⟨bm, 0, none⟩) 2 2) 2 [hdr g0 W, hdr g1 W] ∧
            PS wc bs (hdr bf k) (hdr bl k) (Pl.setCls (fun _ => 0) 47 1) (.slice (some ⟨bm, 0, none⟩) 2 2) (.slice none 0 0) (.slice none 0 0) (.slice none 0 0) ∧
            wc.rowIs bf 3 k (icell (pre k (fstB S))) ∧ wc.rowIs bl 3 k (icell (pre k (lstB S))) ∧ Below w.heap.size w wc

theorem after12 {w W1 : World} {S : Nat → ByteArray} {W k bf bl bs : Nat} (hps : PS W1 bs (hdr bf k) (hdr bl k) (Pl.setCls (fun _ => 0) 47 1) (.slice none 0 0) (.slice none 0 0) (.slice none 0 0) (.slice none 0 0))
    (hrf : W1.rowIs bf 3 k (icell (pre k (fstB S)))) (hrl : W1.rowIs bl 3 k (icell (pre k (lstB S)))) (hb : Below w.heap.size w W1) (hbs : w.heap.size ≤ bs) (x y : Nat)
    (hxy : x = W1.heap.size ∧ y = W1.heap.size + 1 ∨ x = W1.heap.size + 1 ∧ y = W1.heap.size) :
    After12 w S W k bf bl bs ((((W1.alloc (.cells (madeCells #[.int .u64 0] W) 40)).alloc (.cells (madeCells #[.int .u64 0] W) 40)).alloc (.cells #[.slice (some ⟨x, 0, none⟩) W W, .slice (some ⟨y, 0, none⟩) W W] 37)).setCell ⟨bs, 258, none⟩ (.slice (some ⟨W1.heap.size + 1 + 1, 0, none⟩) 2 2)).drew := by
  have hsz := hb.size
  have hlt := hps.lt
  have hne0 : W1.heap.size ≠ bs := by omega
  have hne1 : W1.heap.size + 1 ≠ bs := by omega
  have r0 := ((row_made_first W1 (.cells (madeCells #[.int .u64 0] W) 40) W (.int .u64 0) 40).alloc (.cells #[.slice (some ⟨x, 0, none⟩) W W, .slice (some ⟨y, 0, none⟩) W W] 37)).setOther (a := ⟨bs, 258, none⟩) hne0 (.slice (some ⟨W1.heap.size + 1 + 1, 0, none⟩) 2 2)
  have r1 := ((row_made_second W1 (.cells (madeCells #[.int .u64 0] W) 40) W (.int .u64 0) 40).alloc (.cells #[.slice (some ⟨x, 0, none⟩) W W, .slice (some ⟨y, 0, none⟩) W W] 37)).setOther (a := ⟨bs, 258, none⟩) hne1 (.slice (some ⟨W1.heap.size + 1 + 1, 0, none⟩) 2 2)
  have hown : ((((W1.alloc (.cells (madeCells #[.int .u64 0] W) 40)).alloc (.cells (madeCells #[.int .u64 0] W) 40)).alloc (.cells #[.slice (some ⟨x, 0, none⟩) W W, .slice (some ⟨y, 0, none⟩) W W] 37)).setCell ⟨bs, 258, none⟩ (.slice (some ⟨W1.heap.size + 1 + 1, 0, none⟩) 2 2)).drew.ownsRow w.heap.size 37 1 (.slice (some ⟨W1.heap.size + 1 + 1, 0, none⟩) 2 2) 2 [hdr x W, hdr y W] := by
    refine ⟨rfl, .inr ⟨W1.heap.size + 1 + 1, 2, #[.slice (some ⟨x, 0, none⟩) W W, .slice (some ⟨y, 0, none⟩) W W], rfl, by omega, ?_, Nat.le_refl _, by decide, rfl, rfl⟩⟩
    have h1 := heap_alloc_new ((W1.alloc (.cells (madeCells #[.int .u64 0] W) 40)).alloc (.cells (madeCells #[.int .u64 0] W) 40)) (.cells #[.slice (some ⟨x, 0, none⟩) W W, .slice (some ⟨y, 0, none⟩) W W] 37)
    have e : ((W1.alloc (.cells (madeCells #[.int .u64 0] W) 40)).alloc (.cells (madeCells #[.int .u64 0] W) 40)).heap.size = W1.heap.size + 1 + 1 := by simp
    rw [e] at h1
    refine (Below.heap_setCell _ _ _ _ ?_).trans h1
    show W1.heap.size + 1 + 1 ≠ bs
    omega
  have p3 := (((hps.alloc (.cells (madeCells #[.int .u64 0] W) 40)).alloc (.cells (madeCells #[.int .u64 0] W) 40)).alloc (.cells #[.slice (some ⟨x, 0, none⟩) W W, .slice (some ⟨y, 0, none⟩) W W] 37)).set3 (.slice (some ⟨W1.heap.size + 1 + 1, 0, none⟩) 2 2)
  have rf := (((hrf.alloc (.cells (madeCells #[.int .u64 0] W) 40)).alloc (.cells (madeCells #[.int .u64 0] W) 40)).alloc (.cells #[.slice (some ⟨x, 0, none⟩) W W, .slice (some ⟨y, 0, none⟩) W W] 37)).setOther (a := ⟨bs, 258, none⟩) (row_ne hrf hps (by decide)) (.slice (some ⟨W1.heap.size + 1 + 1, 0, none⟩) 2 2)
  have rl := (((hrl.alloc (.cells (madeCells #[.int .u64 0] W) 40)).alloc (.cells (madeCells #[.int .u64 0] W) 40)).alloc (.cells #[.slice (some ⟨x, 0, none⟩) W W, .slice (some ⟨y, 0, none⟩) W W] 37)).setOther (a := ⟨bs, 258, none⟩) (row_ne hrl hps (by decide)) (.slice (some ⟨W1.heap.size + 1 + 1, 0, none⟩) 2 2)
  have hbb := ((((hb.alloc hsz (.cells (madeCells #[.int .u64 0] W) 40)).alloc (by simp; omega) (.cells (madeCells #[.int .u64 0] W) 40)).alloc (by simp; omega) (.cells #[.slice (some ⟨x, 0, none⟩) W W, .slice (some ⟨y, 0, none⟩) W W] 37)).setCell (p := ⟨bs, 258, none⟩) hbs (.slice (some ⟨W1.heap.size + 1 + 1, 0, none⟩) 2 2)).drew
  rcases hxy with ⟨rfl, rfl⟩ | ⟨rfl, rfl⟩
  · exact ⟨_, _, _, by omega, by omega, by omega, r0, r1, hown, p3, rf, rl, hbb⟩
  · exact ⟨_, _, _, by omega, by omega, by omega, r1, r0, hown, p3, rf, rl, hbb⟩

theorem append_cells {w V w1 : World} {S : Nat → ByteArray} {N W bf bl bs nm gm cp : Nat} {cls G : Nat → Nat} {F : Nat → Nat → Bool} {o1 o2 : Obj}
    (h : StG w S N W bf bl bs cls nm F G (.slice (some ⟨gm, 0, none⟩) nm cp) V) (hgrow : ((V.alloc o1).alloc o2).drew.grownBy w1 (Value.ownBlock (.slice (some ⟨gm, 0, none⟩) nm cp))) :
    w1.cell? ⟨bs, 258, none⟩ = some (.slice (some ⟨gm, 0, none⟩) nm cp) ∧ w1.frozen? ⟨bs, 258, none⟩ = false := by
  have hlt := h.ps.lt
  have hb : w1.heap[bs]? = V.heap[bs]? := by
    refine (hgrow.block bs (by show bs < ((V.alloc o1).alloc o2).heap.size; simp; omega) (fun e => own_ne h.own h.ps (by decide) e.symm)).trans ?_
    show ((V.alloc o1).alloc o2).heap[bs]? = V.heap[bs]?
    rw [heap_alloc_old _ o2 (by simp; omega), heap_alloc_old _ o1 hlt]
  have hp := h.ps.of_block hb
  exact ⟨hp.c3, hp.fr 258⟩

theorem appended {w V w1 : World} {S : Nat → ByteArray} {N W bf bl bs nm gm cp gg cp2 : Nat} {cls G : Nat → Nat} {F : Nat → Nat → Bool}
    (h : StG w S N W bf bl bs cls nm F G (.slice (some ⟨gm, 0, none⟩) nm cp) V) (hbs : w.heap.size ≤ bs) (hF : ∀ b, F (3 + nm) b = false)
    (hgrow : ((V.alloc (.cells (madeCells #[.int .u64 0] W) 40)).alloc (.cells #[.slice (some ⟨V.heap.size, 0, none⟩) W W] 37)).drew.grownBy w1 (Value.ownBlock (.slice (some ⟨gm, 0, none⟩) nm cp)))
    (hown : w1.ownsRow w.heap.size 37 1 (.slice (some ⟨gg, 0, none⟩) (nm + 1) cp2) (nm + 1) (((List.range nm).map fun k => hdr (G (3 + k)) W) ++ [.slice (some ⟨V.heap.size, 0, none⟩) W W])) :
    StG w S N W bf bl bs cls (nm + 1) F (fun x => if x = 3 + nm then V.heap.size else G x) (.slice (some ⟨gg, 0, none⟩) (nm + 1) cp2) (w1.setCell ⟨bs, 258, none⟩ (.slice (some ⟨gg, 0, none⟩) (nm + 1) cp2)) := by
  have hsz := h.below.size
  refine h.more hbs rfl (w1 := ((V.alloc (.cells (madeCells #[.int .u64 0] W) 40)).alloc (.cells #[.slice (some ⟨V.heap.size, 0, none⟩) W W] 37)).drew) (zero_row ((World.rowIs_made V _ _ _).alloc _) _ hF) (fun k hk => ?_) (((h.below.alloc hsz _).alloc (by simp; omega) _).drew) hgrow hown (by show V.heap.size < ((V.alloc _).alloc _).heap.size; simp; omega)
  show ((V.alloc _).alloc _).heap[k]? = V.heap[k]?
  rw [heap_alloc_old _ _ (by simp; omega), heap_alloc_old _ _ hk]

/-- What newPatternSet leaves. -/
def NewPost (w : World) (S : Nat → ByteArray) (N : Nat) (e : Ending) (w' : World) : Prop :=
  ∃ W bf bl bs, e = .returned (.pointer (some ⟨bs, 0, none⟩)) ∧ W = (fstB S N + 63) / 64 ∧ w.heap.size ≤ bf ∧ w.heap.size ≤ bl ∧ w.heap.size ≤ bs ∧ St w S N W bf bl bs (Eall S N) (Yall S N) (Tall S N) (Nall S N) w'

set_option maxHeartbeats 4000000 in
set_option maxRecDepth 100000 in
theorem new_any (a : Option Addr) (N cap : Nat) (S : Nat → ByteArray) (w : World) (hN : N ≤ 4096) (ht : tot S N ≤ 65536) (hS : OwnStrs 0 w a N S) :
    Calls Try.prog 23 #[.slice a N cap] w (NewPost w S N) := by
  have hmk := run_make_row' (P := Try.prog) 33 3 (.int .i64 0) 8 Try.underlying33 info3 rfl .i64 .i64 N (by omega) (by omega)
  have hz := zero51
  have hz0 : ¬ Z51 = #[] := by intro e; have := congrArg Array.size e; rw [Z51_size] at this; cases this
  have hz1 : ¬ Z51.size < 2 := by rw [Z51_size]; decide
  go_enter Try.func23, Try.ntmps23
  go_upto_region 1 with fail
  go_cut [3] (fun p wc => ∃ bf bl bs : Nat, p = .pointer (some ⟨bs, 0, none⟩) ∧ bf ≠ bl ∧ w.heap.size ≤ bf ∧ w.heap.size ≤ bl ∧ w.heap.size ≤ bs ∧ wc.rowIs bf 3 N (fun _ => .int .i64 0) ∧ wc.rowIs bl 3 N (fun _ => .int .i64 0) ∧
      PS wc bs (.slice (some ⟨bf, 0, none⟩) N N) (.slice (some ⟨bl, 0, none⟩) N N) (fun _ => 0) (.slice none 0 0) (.slice none 0 0) (.slice none 0 0) (.slice none 0 0) ∧ Below w.heap.size w wc)
  case first =>
    go_region
    all_goals
      go_wp2_with fail
      go_meet
      case rel =>
        first
          | exact ⟨w.heap.size, w.heap.size + 1, w.heap.size + 1 + 1, rfl, by omega, by omega, by omega, by omega, (row_made_first _ _ _ _ _).alloc _, (row_made_second _ _ _ _ _).alloc _, ps_made2 _ _ _ _ _, (below3 _ _ _ _).drew⟩
          | exact ⟨w.heap.size + 1, w.heap.size, w.heap.size + 1 + 1, rfl, by omega, by omega, by omega, by omega, (row_made_second _ _ _ _ _).alloc _, (row_made_first _ _ _ _ _).alloc _, ps_made2 _ _ _ _ _, (below3 _ _ _ _).drew⟩
  case rest =>
    obtain ⟨bf, bl, bs, rfl, hfl, hbf, hbl, hbs, hrf, hrl, hps, hbel⟩ := hcut
    clear hmk hz hz0 hz1
    go_wp2
    go_loopg [4, 23] N (fun gk bt iv wr => ∃ k : Nat, k ≤ N ∧ Hid (gk = N - k) ∧ iv = .int .i64 (k : Int) ∧ bt = .int .i64 (fstB S k : Int) ∧ wr.rowIs bf 3 N (icell (pre k (fstB S))) ∧ wr.rowIs bl 3 N (icell (pre k (lstB S))) ∧
        PS wr bs (.slice (some ⟨bf, 0, none⟩) N N) (.slice (some ⟨bl, 0, none⟩) N N) (fun _ => 0) (.slice none 0 0) (.slice none 0 0) (.slice none 0 0) (.slice none 0 0) ∧ Below w.heap.size w wr)
    case atStart => exact ⟨0, Nat.zero_le _, rfl, rfl, rfl, hrf, hrl, hps, hbel⟩
    case round =>
      obtain ⟨k, hk, Hgk, rfl, rfl, hrf, hrl, hps, hbel⟩ := hrel
      have hfb := fstB_le S k
      have htk := tot_mono S hk
      by_cases hlt : k < N
      · obtain ⟨g, rfl, _, hrg⟩ := hS (by omega)
        have hg := hrg.lt
        have hrg2 : wr.rowIs g 9 N (scell S) := hrg.of_block (hbel.block g hg)
        have cg := hrg2.cell hlt
        have c0 := hps.c0
        have c1 := hps.c1
        have cf := hrf.cell hlt
        have ff := hrf.frozen k
        have cl := hrl.cell hlt
        have fl := hrl.frozen k
        have hsk := size_le_tot S hlt
        have hcn : ns (pat S k) + stars (S k) = (S k).size := stars_ns (S k)
        have hls : lstB S k = fstB S k + ns (pat S k) := rfl
        have HLS : Hid _ := hls
        have HCN : Hid _ := hcn
        clear hcn hls
        unfold scell at cg
        unfold icell at cf cl
        go_upto_region 7 with fail
        have hps1 := hps.other (a := ⟨bf, k, none⟩) (row_ne hps hrf (by decide)) (.int .i64 (fstB S k : Int))
        have hrl1 := hrl.setOther (a := ⟨bf, k, none⟩) (fun e => hfl e.symm) (.int .i64 (fstB S k : Int))
        have hrf1 := irow_step hrf rfl
        have hb1 := hbel.setCell (p := ⟨bf, k, none⟩) hbf (.int .i64 (fstB S k : Int))
        clear c0 c1 cf ff cl fl cg hps hrl hrf hbel hrg2
        generalize wr.setCell ⟨bf, k, none⟩ (.int .i64 (fstB S k : Int)) = W1 at *
        have c1 := hps1.c1
        have cl := hrl1.cell hlt
        have fl := hrl1.frozen k
        unfold icell at cl
        have hn1 : bs ≠ bl := row_ne hps1 hrl1 (by decide)
        have hn2 : bl ≠ bs := fun e => hn1 e.symm
        have i1 : (0 : Int) ≤ (k : Int) := by omega
        have i2 : (k : Int) < (N : Int) := by omega
        go_region_held3 (fun w' => w'.cell? ⟨bs, 1, none⟩ = some (.slice (some ⟨bl, 0, none⟩) N N)) (go_keep) ((go_at_call 24; refine (count_star (S k) _ (by omega)).mono ?_; rintro e w' ⟨rfl, rfl⟩))
        have hval : IntKind.i64.wrap (IntKind.i64.wrap ((fstB S k : Int) + ((S k).size : Int)) - (stars (S k) : Int)) = (lstB S k : Int) := by
          have h1 := HLS.out
          have h2 := HCN.out
          exact wrap_last _ _ _ _ (by omega) (by omega) (by omega)
        rw [hval]
        clear hval
        have hps2 := hps1.other (a := ⟨bl, k, none⟩) hn1 (.int .i64 (lstB S k : Int))
        have hrf2 := hrf1.setOther (a := ⟨bl, k, none⟩) hfl (.int .i64 (lstB S k : Int))
        have hrl2 := irow_step hrl1 rfl
        have hb2 := hb1.setCell (p := ⟨bl, k, none⟩) hbl (.int .i64 (lstB S k : Int))
        rename World.cell? _ _ = _ => hHeld
        clear hHeld
        clear c1 cl fl hps1 hrl1 hrf1 hb1
        generalize W1.setCell ⟨bl, k, none⟩ (.int .i64 (lstB S k : Int)) = W2 at *
        have c1 := hps2.c1
        have cl := hrl2.cell hlt
        unfold icell at cl
        rw [pre_at] at cl
        have hlb : lstB S k ≤ 140000 := by rw [HLS.out]; have := HCN.out; omega
        go_wp2
        go_roundg (N - (k + 1))
        case measure => rw [Hgk.out]; omega
        case rel => exact ⟨k + 1, by omega, rfl, by go_num, by rw [fstB_succ]; go_num, hrf2, hrl2, hps2, hb2.drew⟩
      · obtain rfl : k = N := by omega
        clear hlt hk Hgk htk
        have hW : (fstB S k + 63) / 64 ≤ 2048 := by omega
        obtain ⟨W, HW⟩ : ∃ W, Hid (W = (fstB S k + 63) / 64) := ⟨(fstB S k + 63) / 64, rfl⟩
        have hWb : W ≤ 2048 := by rw [HW.out]; exact hW
        have hmk := run_make_row' (P := Try.prog) 37 40 (.int .u64 0) 8 Try.underlying37 info40 rfl .i64 .i64 W (by omega) (by omega)
        have hdiv : ((fstB S k : Int) + 63) / 64 = (W : Int) := by rw [HW.out]; omega
        have cc := hps.cc (c := 47) (by decide)
        have fc := hps.fr 49
        have hb63 : fstB S k ≤ 70000 := by omega
        go_upto_region 12 with fail
        rw [hdiv]
        clear hdiv
        have hps1 : PS (wr.setCell ⟨bs, 49, none⟩ (.int .u16 1)) bs _ _ (Pl.setCls (fun _ => 0) 47 1) _ _ _ _ := hps.setc (c := 47) (by decide) 1
        have hrf1 := hrf.setOther (a := ⟨bs, 49, none⟩) (row_ne hrf hps (by decide)) (.int .u16 1)
        have hrl1 := hrl.setOther (a := ⟨bs, 49, none⟩) (row_ne hrl hps (by decide)) (.int .u16 1)
        have hb1 := hbel.setCell (p := ⟨bs, 49, none⟩) hbs (.int .u16 1)
        clear cc fc hps hrf hrl hbel
        generalize wr.setCell ⟨bs, 49, none⟩ (.int .u16 1) = W1 at *
        have hlt1 := hps1.lt
        have c3 : ∀ o1 o2 o3, (((W1.alloc o1).alloc o2).alloc o3).cell? ⟨bs, 258, none⟩ = some (.slice none 0 0) := fun _ _ _ => (((hps1.alloc _).alloc _).alloc _).c3
        have f3 : ∀ o1 o2 o3, (((W1.alloc o1).alloc o2).alloc o3).frozen? ⟨bs, 258, none⟩ = false := fun _ _ _ => (((hps1.alloc _).alloc _).alloc _).fr 258
        go_cut [] (fun wc => After12 w S W k bf bl bs wc)
        case first =>
          go_region
          all_goals
            go_wp2_with fail
            go_meet
            case rel =>
              go_light
              exact after12 hps1 hrf1 hrl1 hb1 hbs _ _ (by omega)
        case rest =>
          obtain ⟨g0, g1, bm, h01, hg0, hg1, hr0, hr1, hown, hps2, hrf2, hrl2, hb2⟩ := hcut
          clear hps1 hrf1 hrl1 hb1 hlt1 c3 f3 hps hrf hrl hbel
          rename World => W2
          have hlt2 := hps2.lt
          have c4 := hps2.c4
          have c5 := hps2.c5
          have c6 := hps2.c6
          have f4 := hps2.fr 259
          have f5 := hps2.fr 260
          have f6 := hps2.fr 261
          have hlt3 : bs < W2.heap.size + 1 := by omega
          have hlt4 : bs < W2.heap.size + 1 + 1 := by omega
          go_upto_region 13 with fail
          go_cut [] (fun wc => St w S k W bf bl bs [] [] [] [] wc)
          case first =>
            go_big_region
            all_goals
              go_wp2_with fail
              go_meet
              case rel =>
                go_light
                exact ⟨_, 2, _, _, after13 h01 hg0 hg1 hr0 hr1 hown hps2 hrf2 hrl2 hb2 hbs _ _ _ (by omega) (by omega) (by omega) (by omega) (by omega) (by omega) (by omega) (by omega) (by omega), Pl.CI.start⟩
          case rest =>
            clear h01 hg0 hg1 hr0 hr1 hown hps2 hrf2 hrl2 hb2 hlt2 c4 c5 c6 f4 f5 f6 hlt3 hlt4
            go_wp2
            go_loopg [89] k (fun gi iv wr => ∃ i : Nat, i ≤ k ∧ Hid (gi = k - i) ∧ iv = .int .i64 (i : Int) ∧ St w S k W bf bl bs (Eall S i) (Yall S i) (Tall S i) (Nall S i) wr)
            case atStart => exact ⟨0, Nat.zero_le _, rfl, rfl, hcut⟩
            case round =>
              obtain ⟨i, hi, Hgi, rfl, hst⟩ := hrel
              clear hcut
              by_cases hlt : i < k
              · obtain ⟨cls, nm, G, v, hG, hci⟩ := hst
                obtain ⟨g, rfl, _, hrg⟩ := hS (by omega)
                have hg := hrg.lt
                have hrg2 : wr.rowIs g 9 k (scell S) := hrg.of_block (hG.below.block g hg)
                have cg : wr.cell? ⟨g, i, none⟩ = some (.string (S i)) := hrg2.cell hlt
                have c0 : wr.cell? ⟨bs, 0, none⟩ = some (.slice (some ⟨bf, 0, none⟩) k k) := hG.ps.c0
                have c5 : wr.cell? ⟨bs, 260, none⟩ = some (.slice (some ⟨G 1, 0, none⟩) W W) := hG.ps.c5
                have cf : wr.cell? ⟨bf, i, none⟩ = some (.int .i64 (fstB S i : Int)) := hG.rf.cell hlt
                have hlf : lstB S i < fstB S k := lstB_bound S hlt
                have hfl1 : fstB S i ≤ lstB S i := Nat.le_add_right _ _
                have hWk : fstB S k ≤ 64 * W := by rw [HW.out]; omega
                have hsk := size_le_tot S hlt
                go_wp2_with fail
                refine (setBit_any (G 1) W W (fstB S i) _ _ (by omega) (by omega) (hG.fam.1 1 (by omega))).mono ?_
                rintro e w1 ⟨rfl, hr1, ho1⟩
                have hG1 := (hG.setBit (by omega) hr1 ho1).congr (fun x _ b => FF_start cls (Eall S i) (Yall S i) (Tall S i) (Nall S i) (fstB S i) x b)
                clear hr1 ho1 cg c0 c5 cf hrg2
                have hst1 : St w S k W bf bl bs (Eall S i ++ Pl.evs (fstB S i) ((pat S i).take 0)) (Yall S i ++ Pl.ys (fstB S i) ((pat S i).take 0)) (Tall S (i + 1)) (Nall S i) w1 := by
                  have e1 : Eall S i ++ Pl.evs (fstB S i) ((pat S i).take 0) = Eall S i := by simp [Pl.evs]
                  have e2 : Yall S i ++ Pl.ys (fstB S i) ((pat S i).take 0) = Yall S i := by simp [Pl.ys]
                  rw [e1, e2]
                  exact ⟨cls, nm, G, v, hG1, hci⟩
                clear hG1 hci hG
                go_wp2
                go_loopg [10, 109] (S i).size (fun gj bt jv wj => ∃ j bit : Nat, j ≤ (S i).size ∧ Hid (gj = (S i).size - j) ∧ jv = .int .i64 (j : Int) ∧ bt = .int .i64 (bit : Int) ∧ Hid (bit = fstB S i + Pl.nst ((pat S i).take j)) ∧
                    St w S k W bf bl bs (Eall S i ++ Pl.evs (fstB S i) ((pat S i).take j)) (Yall S i ++ Pl.ys (fstB S i) ((pat S i).take j)) (Tall S (i + 1)) (Nall S i) wj)
                case atStart => exact ⟨0, fstB S i, Nat.zero_le _, rfl, rfl, rfl, rfl, hst1⟩
                case round =>
                  obtain ⟨j, bit, hj, Hgj, rfl, rfl, Hbit, hst⟩ := hrel
                  clear hst1
                  by_cases hjl : j < (S i).size
                  · have HTK : Hid ((pat S i).take (j + 1) = (pat S i).take j ++ [(S i)[j]'hjl]) := take_snoc (pat S i) j (by rw [pat_length]; exact hjl)
                    have hbb : bit ≤ lstB S i := by
                      rw [Hbit.out]
                      have h1 := ns_eq (pat S i)
                      have h2 := congrArg ns (List.take_append_drop j (pat S i))
                      rw [ns_append, ns_eq, ns_eq] at h2
                      have h3 : lstB S i = fstB S i + ns (pat S i) := rfl
                      omega
                    by_cases hst42 : (S i)[j] = 42
                    · have h3 : (((S i)[j].toNat : Int) == 42) = true := (star_iff _).2 hst42
                      have HE : Hid (Pl.evs (fstB S i) ((pat S i).take (j + 1)) = Pl.evs (fstB S i) ((pat S i).take j)) := by
                        show _ = _
                        rw [HTK.out, Pl.evs_snoc, hst42]; simp
                      have HY : Hid (Pl.ys (fstB S i) ((pat S i).take (j + 1)) = Pl.ys (fstB S i) ((pat S i).take j) ++ [bit]) := by
                        show _ = _
                        rw [HTK.out, Pl.ys_snoc, hst42, Hbit.out]; simp
                      have HB : Hid (bit = fstB S i + Pl.nst ((pat S i).take (j + 1))) := by
                        show _ = _
                        rw [HTK.out, Pl.nst_snoc, hst42, Hbit.out]; simp
                      obtain ⟨cls, nm, G, v, hG, hci⟩ := hst
                      have c4 : wr.cell? ⟨bs, 259, none⟩ = some (.slice (some ⟨G 0, 0, none⟩) W W) := hG.ps.c4
                      clear hst42
                      go_wp2_with fail
                      refine (setBit_any (G 0) W W bit _ _ (by omega) (by omega) (hG.fam.1 0 (by omega))).mono ?_
                      rintro e w2 ⟨rfl, hr1, ho1⟩
                      have hG1 := (hG.setBit (by omega) hr1 ho1).congr (fun x _ b => FF_stay cls _ _ (Tall S (i + 1)) (Nall S i) bit x b)
                      clear hr1 ho1 c4
                      go_wp2
                      go_roundg ((S i).size - (j + 1))
                      case measure => rw [Hgj.out]; omega
                      case rel =>
                        refine ⟨j + 1, bit, by omega, rfl, by go_num, rfl, HB, cls, nm, G, v, ?_, ?_⟩
                        · rw [HE.out, HY.out, ← List.append_assoc]; exact hG1
                        · rw [HE.out]; exact hci
                    · have h3 : (((S i)[j].toNat : Int) == 42) = false := by
                        rw [Bool.eq_false_iff]; exact fun e => hst42 ((star_iff _).1 e)
                      have HE : Hid (Pl.evs (fstB S i) ((pat S i).take (j + 1)) = Pl.evs (fstB S i) ((pat S i).take j) ++ [((S i)[j], bit + 1)]) := by
                        show _ = _
                        rw [HTK.out, Pl.evs_snoc, Hbit.out]; simp [hst42]
                      have HY : Hid (Pl.ys (fstB S i) ((pat S i).take (j + 1)) = Pl.ys (fstB S i) ((pat S i).take j)) := by
                        show _ = _
                        rw [HTK.out, Pl.ys_snoc]; simp [hst42]
                      have HB : Hid (bit + 1 = fstB S i + Pl.nst ((pat S i).take (j + 1))) := by
                        show _ = _
                        rw [HTK.out, Pl.nst_snoc, Hbit.out]; simp [hst42]; omega
                      have hbb1 : bit + 1 ≤ lstB S i := by
                        rw [HB.out]
                        have h1 := ns_eq (pat S i)
                        have h2 := congrArg ns (List.take_append_drop (j + 1) (pat S i))
                        rw [ns_append, ns_eq, ns_eq] at h2
                        have h3 : lstB S i = fstB S i + ns (pat S i) := rfl
                        omega
                      have HC42 : Hid ((S i)[j] ≠ 42) := hst42
                      clear hst42
                      obtain ⟨cls, nm, G, v, hG, hci⟩ := hst
                      obtain ⟨c, Hc⟩ : ∃ c : UInt8, Hid (c = (S i)[j]) := ⟨(S i)[j], rfl⟩
                      have hc256 : c.toNat < 256 := c.toNat_lt
                      have cc : wr.cell? ⟨bs, 2 + (S i)[j].toNat, none⟩ = some (.int .u16 (cls (S i)[j].toNat : Int)) := hG.ps.cc (S i)[j].toNat_lt
                      have hx0 : ((S i)[j].toNat : Int) < 256 := by have := (S i)[j].toNat_lt; omega
                      go_upto_if 129 with fail
                      clear hx0
                      obtain ⟨n, hn⟩ : ∃ n, (S i)[j].toNat = n := ⟨_, rfl⟩
                      rw [hn] at cc
                      rw [hn]
                      have Hn : Hid _ := hn
                      have hn256 : n < 256 := by rw [← hn]; exact (S i)[j].toNat_lt
                      clear hn h3
                      have hx1 : (0 : Int) ≤ (n : Int) := by omega
                      have hx2 : (n : Int) < 256 := by omega
                      go_cut [] (fun wc => ∃ cls nm G v, StG w S k W bf bl bs cls nm (Pl.FF cls (Eall S i ++ Pl.evs (fstB S i) ((pat S i).take j)) (Yall S i ++ Pl.ys (fstB S i) ((pat S i).take j)) (Tall S (i + 1)) (Nall S i)) G v wc ∧ Pl.CI cls nm ((Eall S i ++ Pl.evs (fstB S i) ((pat S i).take j)) ++ [((S i)[j], bit + 1)]))
                      case first =>
                        by_cases h0 : cls n = 0
                        · have hci2 := hci.fresh (S i)[j] (bit + 1) HC42.out (by rw [Hn.out]; exact h0)
                          rw [Hn.out] at hci2
                          have HCI : Hid _ := hci2
                          have hnm := hci.nm_le
                          have HF : Hid (∀ x b, x < 3 + nm → Pl.FF cls (Eall S i ++ Pl.evs (fstB S i) ((pat S i).take j)) (Yall S i ++ Pl.ys (fstB S i) ((pat S i).take j)) (Tall S (i + 1)) (Nall S i) x b = Pl.FF (Pl.setCls cls n nm) (Eall S i ++ Pl.evs (fstB S i) ((pat S i).take j)) (Yall S i ++ Pl.ys (fstB S i) ((pat S i).take j)) (Tall S (i + 1)) (Nall S i) x b) :=
                            fun x b _ => FF_fresh hci (S i)[j] (by rw [Hn.out]; exact h0) Hn.out x b
                          have HN : Hid (∀ b, Pl.FF (Pl.setCls cls n nm) (Eall S i ++ Pl.evs (fstB S i) ((pat S i).take j)) (Yall S i ++ Pl.ys (fstB S i) ((pat S i).take j)) (Tall S (i + 1)) (Nall S i) (3 + nm) b = false) :=
                            fun b => (FF_fresh hci (S i)[j] (by rw [Hn.out]; exact h0) Hn.out (3 + nm) b).symm.trans (Pl.FF_new hci _ _ _ b)
                          have h0' : ((cls n : Int) == 0) = true := by rw [beq_iff_eq]; omega
                          have H0 : Hid _ := h0
                          have hwr : IntKind.u16.wrap (nm : Int) = (nm : Int) := by rw [IntKind.wrap_u16]; omega
                          clear h0 hci hci2
                          obtain ⟨gm, cp, rfl, _, _⟩ := hG.own.form (by omega)
                          have c3 : wr.cell? ⟨bs, 258, none⟩ = some (.slice (some ⟨gm, 0, none⟩) nm cp) := hG.ps.c3
                          have fc := hG.ps.fr (2 + n)
                          go_upto_region 26 with fail
                          go_big_region
                          go_wp2_with fail
                          have hG1 := (hG.setc hbs hn256 nm).drew.congr (F' := Pl.FF (Pl.setCls cls n nm) (Eall S i ++ Pl.evs (fstB S i) ((pat S i).take j)) (Yall S i ++ Pl.ys (fstB S i) ((pat S i).take j)) (Tall S (i + 1)) (Nall S i)) (fun x hx b => HF.out x b hx)
                          clear c3 fc cc hG HF
                          generalize (wr.setCell ⟨bs, 2 + n, none⟩ (.int .u16 (nm : Int))).drew = V at *
                          have c3 : V.cell? ⟨bs, 258, none⟩ = some (.slice (some ⟨gm, 0, none⟩) nm cp) := hG1.ps.c3
                          have f3 := hG1.ps.fr 258
                          have hl0 : bs < V.heap.size := hG1.ps.lt
                          have hl1 : bs < V.heap.size + 1 := by omega
                          have hVb := hG1.below.size
                          obtain ⟨i0, hi0, hz0, hz1, hz2⟩ := info_parts info37
                          have HOWN : Hid (((V.alloc (.cells (madeCells #[.int .u64 0] W) 40)).alloc (.cells #[.slice (some ⟨V.heap.size, 0, none⟩) W W] 37)).drew.ownsRow w.heap.size 37 1 (.slice (some ⟨gm, 0, none⟩) nm cp) nm ((List.range nm).map fun k => hdr (G (3 + k)) W)) := (hG1.own.alloc _).alloc _
                          have HNEW : Hid (((V.alloc (.cells (madeCells #[.int .u64 0] W) 40)).alloc (.cells #[.slice (some ⟨V.heap.size, 0, none⟩) W W] 37)).drew.heap[V.heap.size + 1]? = some (.cells #[.slice (some ⟨V.heap.size, 0, none⟩) W W] 37 (0, 0))) := by
                            have h := heap_alloc_new (V.alloc (.cells (madeCells #[.int .u64 0] W) 40)) (.cells #[.slice (some ⟨V.heap.size, 0, none⟩) W W] 37)
                            have e : (V.alloc (.cells (madeCells #[.int .u64 0] W) 40)).heap.size = V.heap.size + 1 := by simp
                            rw [e] at h
                            exact h
                          have HG1 : Hid (StG w S k W bf bl bs (Pl.setCls cls n nm) nm _ G _ V) := hG1
                          clear hG1
                          have hnm258 : nm ≤ 258 := by omega
                          go_region_law ((refine step_append_lies _ (by rfl) _ _ _ (by rfl) w.heap.size 37 i0 _ 1 24 Try.underlying36 hi0 hz0 hz1 hz2 rfl (by omega) _ nm _ (by rfl) HOWN.out ⟨V.heap.size + 1, 0, none⟩ 1 1 [.slice (some ⟨V.heap.size, 0, none⟩) W W] (by rfl) (by rfl) (World.news_of_block HNEW.out) (by simp [Value.oneCell']) (by omega) (by unfold maxLen; omega) (by omega) (by simp; omega) (V.heap.size + 1 + 1) (by simp) ?_; intro gg cp2 w1 hown1 hgrow hat hltg; obtain ⟨d1, d2⟩ := append_cells HG1.out hgrow))
                          all_goals
                            go_wp2_with fail
                            go_meet
                            case rel =>
                              go_light
                              exact ⟨Pl.setCls cls n nm, nm + 1, _, _, appended HG1.out hbs HN.out hgrow hown1, HCI.out⟩
                        · have hci2 := hci.again (S i)[j] (bit + 1) HC42.out (by rw [Hn.out]; exact h0)
                          have h0' : ((cls n : Int) == 0) = false := by rw [beq_eq_false_iff_ne]; omega
                          have H0 : Hid _ := h0
                          clear h0 hci
                          go_wp2
                          go_meet
                          case rel => exact ⟨cls, nm, G, v, hG, hci2⟩
                      case rest =>
                        clear hG hci cc
                        clear cls nm G v
                        obtain ⟨cls, nm, G, v, hG, hci2⟩ := hcut
                        rename World => wr
                        have cc : wr.cell? ⟨bs, 2 + n, none⟩ = some (.int .u16 (cls n : Int)) := hG.ps.cc hn256
                        have hnm := hci2.nm_le
                        have hlc : cls n < nm := by have := hci2.lt (S i)[j]; rw [Hn.out] at this; exact this
                        go_upto_region 29 with fail
                        obtain ⟨gm, cp, rfl, _, _⟩ := hG.own.form (by omega)
                        have c3 : wr.cell? ⟨bs, 258, none⟩ = some (.slice (some ⟨gm, 0, none⟩) nm cp) := hG.ps.c3
                        have cm : wr.cell? ⟨gm, cls n, none⟩ = some (.slice (some ⟨G (3 + cls n), 0, none⟩) W W) := hG.head hlc
                        have hy1 : (0 : Int) ≤ (cls n : Int) := by omega
                        have hy2 : (cls n : Int) < (nm : Int) := by omega
                        have hdv : (bit + 1) / 64 < W := by omega
                        have hsm : bit + 1 ≤ 4194304 := by omega
                        have hcall := setBit_int (G (3 + cls n)) W W (bit + 1) _ _ wr.drew rfl hdv hsm (hG.drew.fam.1 (3 + cls n) (by omega))
                        have HCALL : Hid _ := hcall
                        have HG : Hid (StG w S k W bf bl bs cls nm _ G _ wr) := hG
                        have HCI : Hid _ := hci2
                        have hjs : j + 1 ≤ (S i).size := by omega
                        have HJS : Hid _ := hjs
                        have hsz1 : (S i).size ≤ 65536 := by omega
                        clear hjs hcall hG hci2 hmk hS hrg hg hlf hfl1 hWk hsk hbb hbb1 hfb hN ht hW hWb hb63 hi hlt hbf hbl hbs hfl hj hc256 hsm hdv hnm
                        go_region_held3 (fun w' => w'.cell? ⟨bs, 258, none⟩ = some (.slice (some ⟨gm, 0, none⟩) nm cp) ∧ w'.cell? ⟨bs, 2 + n, none⟩ = some (.int .u16 (cls n : Int)) ∧ w'.cell? ⟨gm, cls n, none⟩ = some (.slice (some ⟨G (3 + cls n), 0, none⟩) W W)) (go_keep) ((go_at_call 25; refine Calls.mono HCALL.out ?_; rintro e w2 ⟨rfl, hr1, ho1⟩; have hG1 := HG.out.drew.setBit (by omega) hr1 ho1; have d1 : w2.cell? ⟨bs, 258, none⟩ = some (.slice (some ⟨gm, 0, none⟩) nm cp) := hG1.ps.c3; have d2 : w2.cell? ⟨bs, 2 + n, none⟩ = some (.int .u16 (cls n : Int)) := hG1.ps.cc hn256; have d3 : w2.cell? ⟨gm, cls n, none⟩ = some (.slice (some ⟨G (3 + cls n), 0, none⟩) W W) := hG1.head hlc; clear hr1 ho1))
                        have hG2 := hG1.congr (F' := Pl.FF cls ((Eall S i ++ Pl.evs (fstB S i) ((pat S i).take j)) ++ [((S i)[j], bit + 1)]) (Yall S i ++ Pl.ys (fstB S i) ((pat S i).take j)) (Tall S (i + 1)) (Nall S i)) (fun x _ b => by rw [← Hn.out]; exact FF_move cls _ _ (Tall S (i + 1)) (Nall S i) (S i)[j] (bit + 1) x b)
                        clear hG1 d1 d2 d3
                        go_wp2
                        go_roundg ((S i).size - (j + 1))
                        case measure => rw [Hgj.out]; have := HJS.out; omega
                        case rel =>
                          refine ⟨j + 1, bit + 1, HJS.out, rfl, by go_num, by go_num, HB, cls, nm, G, .slice (some ⟨gm, 0, none⟩) nm cp, ?_, ?_⟩
                          · rw [HE.out, HY.out, ← List.append_assoc]; exact hG2
                          · rw [HE.out, ← List.append_assoc]; exact HCI.out
                  · obtain rfl : j = (S i).size := by omega
                    have HA : Hid ((pat S i).take (S i).size = pat S i) := List.take_of_length_le (by rw [pat_length]; exact Nat.le_refl _)
                    rw [HA.out] at hst Hbit
                    have HL : Hid (bit = lstB S i) := by
                      show _ = _
                      rw [Hbit.out, ← ns_eq]; rfl
                    have hbb : bit ≤ lstB S i := by rw [HL.out]; exact Nat.le_refl _
                    obtain ⟨cls, nm, G, v, hG, hci⟩ := hst
                    have c6 : wr.cell? ⟨bs, 261, none⟩ = some (.slice (some ⟨G 2, 0, none⟩) W W) := hG.ps.c6
                    go_wp2_with fail
                    refine (setBit_any (G 2) W W bit _ _ (by omega) (by omega) (hG.fam.1 2 (by omega))).mono ?_
                    rintro e w2 ⟨rfl, hr1, ho1⟩
                    have hG1 := (hG.setBit (by omega) hr1 ho1).congr (fun x _ b => FF_end cls _ _ (Tall S (i + 1)) (Nall S i) bit x b)
                    clear hr1 ho1 c6
                    go_wp2
                    go_roundg (k - (i + 1))
                    case measure => rw [Hgi.out]; omega
                    case rel =>
                      refine ⟨i + 1, by omega, rfl, by go_num, cls, nm, G, v, ?_, hci⟩
                      rw [HL.out] at hG1
                      exact hG1
              · obtain rfl : i = k := by omega
                go_wp2
                go_ret
                exact ⟨W, bf, bl, bs, rfl, HW.out, hbf, hbl, hbs, hst⟩
end Go.Proofs.Qxb6001183a
