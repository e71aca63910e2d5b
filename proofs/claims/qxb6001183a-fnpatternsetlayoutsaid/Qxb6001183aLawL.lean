/-
  THE WALK of FnPatternSetLayout.
-/
import Derived.Test.Qxb6001183aHd
import Derived.Test.Qxb6001183aLayPlain
import Derived.Test.Qxb6001183aGlob
import Derived.Deep.DeepCutAuto
import Derived.Deep.RegionHeld3
import Derived.Deep.RegionLaw
import Derived.Deep.Light
import Derived.BigQuiet
namespace Go.Proofs.Qxb6001183a
open Go.RowKit
set_option linter.unusedSimpArgs false
set_option linter.unusedVariables false

/-- The zero array of bools. -/
def Z46 : Array Value := Array.replicate 256 (.bool false)
theorem zero46 (w : World) : (zeroValue 46).run Try.prog w = .ok (.agg Z46) w := by kernel_rfl
theorem row46 (w : World) : (w.alloc (.cells Z46 46)).rowIs w.heap.size 46 256 (tcell fun _ => false) := ⟨Z46, by rw [heap_alloc_new], by simp [Z46], by intro i hi; simp [Z46, hi, tcell]⟩

set_option maxHeartbeats 1000000 in
set_option maxRecDepth 100000 in
theorem lawL (a : Option Addr) (N cap : Nat) (S : Nat → ByteArray) (w : World) (hl : N ≤ maxLen) (hnil : a = none → N = 0 ∧ cap = 0) (hS : SArg w a N S) (hsz : ∀ k, k < N → (S k).size ≤ maxLen) :
    Calls Try.prog 7 #[.slice a N cap] w fun e w' => e = .returned (.bool true) ∧ Below w.heap.size w w' := by
  have HS : Hid (SArg w a N S) := hS
  have Hnil : Hid (a = none → N = 0 ∧ cap = 0) := hnil
  have Hsz : Hid (∀ k, k < N → (S k).size ≤ maxLen) := hsz
  have HZ : Hid _ := zzBytesL a N cap S w hl hS hsz
  have HP : Hid _ := patternBytes_any a N cap S w hl hS hsz
  clear hS hnil hsz
  unfold maxLen at hl
  go_enter Try.func7, Try.ntmps7
  go_wp2_with fail
  refine Calls.mono HZ.out ?_
  rintro e w' ⟨⟨b0, rfl⟩, hw'⟩
  subst w'
  cases b0
  · go_wp2
    go_ret
    exact ⟨rfl, Below.refl _ _⟩
  by_cases hN : N ≤ 4096
  case neg =>
    have h1 : ((N : Int) > 4096) := by omega
    go_wp2
    go_ret
    exact ⟨rfl, Below.refl _ _⟩
  go_wp2_with fail
  refine Calls.mono HP.out ?_
  rintro e w' ⟨⟨t, rfl, ht0, ht1, hte⟩, hw'⟩
  subst w'
  have Hte : Hid _ := hte
  clear hte
  by_cases htb : t ≤ 65536
  case neg =>
    go_wp2
    go_ret
    exact ⟨rfl, Below.refl _ _⟩
  have hw16 : IntKind.i64.wrap (IntKind.i64.wrap (16 * (N : Int)) + t) = 16 * (N : Int) + t := by
    have e1 : IntKind.i64.wrap (16 * (N : Int)) = 16 * (N : Int) := by rw [IntKind.wrap_i64]; omega
    rw [e1, IntKind.wrap_i64]; omega
  have HC : Hid _ := copyStrings_any a N cap S w hN Hnil.out HS.out
  have htot : tot S N ≤ 65536 := by have := Hte.out htb; omega
  clear HZ HP
  go_wp2_with fail
  refine Calls.mono HC.out ?_
  rintro e w1 ⟨a0, cap0, rfl, hown, hb1⟩
  have hown0 : OwnStrs 0 w1 a0 N S := fun h => let ⟨g, e, _, hr⟩ := hown h; ⟨g, e, Nat.zero_le _, hr⟩
  have HZ : Hid _ := zznew a0 N cap0 S w1 hN htot hown0
  have HB1 : Hid _ := hb1
  have HO : Hid _ := hown0
  clear HC hown hown0 hb1 Hte HS Hnil hw16
  go_wp2_with fail
  refine Calls.mono HZ.out ?_
  rintro e w2 ⟨W, bf, bl, nm, cls, G, v, rfl, hW, hT, hci, hb2⟩
  have hnm := hci.nm_le
  have HCI : Hid (Pl.CI cls nm (Eall S N)) := hci
  have HW : Hid _ := hW
  clear HZ hci hW
  obtain ⟨gm, cp, rfl, _, _⟩ := hT.own.form (by omega)
  have HO2 : OwnStrs 0 w2 a0 N S := fun h => let ⟨g, e, hB, hr⟩ := HO.out h; ⟨g, e, hB, hr.of_block (hb2.block _ hr.lt)⟩
  have HH : Hid _ := hd_made (cls := cls) HO2 hT
  have HB : Hid (Below w.heap.size w ((w2.alloc (.cells Z35 35)).setCells w2.heap.size 0 (clsList cls))) := 
    (HB1.out.trans (hb2.mono HB1.out.size)).trans ((((Below.refl w.heap.size w2).alloc (Nat.le_trans HB1.out.size hb2.size) _)).trans ((only_setCells _ _ _ _).below (Nat.le_trans HB1.out.size hb2.size)))
  obtain ⟨cs, Hcs⟩ : ∃ cs, Hid (cs = clsList cls) := ⟨clsList cls, rfl⟩
  have hz := zero35
  have hst := storeC35 w2 cls
  have hcl : cs.length = 256 := by rw [Hcs.out]; exact clsList_length cls
  have Hbc : Hid (w2.heap.size < ((w2.alloc (.cells Z35 35)).setCells w2.heap.size 0 (clsList cls)).heap.size) := HH.out.cl.lt
  rw [← Hcs.out] at HH HB hst Hbc
  rw [← Hcs.out]
  clear HO HB1 HO2 hb2 hT
  unfold hdr
  go_upto_region 10 with fail
  generalize hw3 : (w2.alloc (Obj.cells Z35 35)).setCells w2.heap.size 0 cs = w3 at HH HB Hbc ⊢
  obtain ⟨F, HF⟩ : ∃ F, Hid (F = Pl.FF cls (Eall S N) (Yall S N) (Tall S N) (Nall S N)) := ⟨_, rfl⟩
  rw [← HF.out] at HH
  generalize w2.heap.size = bc at HH Hbc ⊢
  clear hz hst hcl hw3 Hcs htb ht0 ht1 hl
  have hWb : W ≤ 4096 := by
    have := fstB_le S N
    rw [HW.out]; omega
  go_wp2_with fail
  go_loopg [12, 13] N (fun gk bt kv wr => ∃ k : Nat, k ≤ N ∧ Hid (gk = N - k) ∧ kv = .int .i64 (k : Int) ∧ bt = .int .i64 (fstB S k : Int) ∧ Below w3.heap.size w3 wr)
  case atStart => exact ⟨0, Nat.zero_le _, rfl, rfl, rfl, (Below.refl _ _)⟩
  case round =>
    obtain ⟨k, hk, Hgk, rfl, rfl, hbel⟩ := hrel
    by_cases hlt : k < N
    · obtain ⟨gs, rfl, hrs⟩ := (HH.out.to hbel).str (by omega)
      have hcs : wr.cell? ⟨gs, k, none⟩ = some (.string (S k)) := hrs.cell hlt
      have hcf := (HH.out.to hbel).first hlt
      have hcl := (HH.out.to hbel).last hlt
      have hlb := lstB_bound S hlt
      have hbd := fstB_le S N
      have Hsu : Hid (fstB S (k + 1) = lstB S k + 1) := fstB_succ S k
      have hle : lstB S k = fstB S k + ns (S k).data.toList := rfl
      have hsi : (S k).size ≤ 65536 := Nat.le_trans (size_le_tot S hlt) htot
      have HNS : Hid _ := nonStar_any (S k) wr hsi
      rw [hle] at hcl hlb Hsu
      clear hle
      generalize ns (S k).data.toList = nk at hcl hlb HNS Hsu
      generalize fstB S k = fk at hcf hcl hlb Hsu ⊢
      have hfk : fk + nk ≤ 100000 := by omega
      clear hlb hbd
      go_wp2_with fail
      refine Calls.mono HNS.out ?_
      rintro e w' ⟨rfl, hw'⟩
      subst w'
      clear HNS
      go_wp2
      go_roundg (N - (k + 1))
      case measure => rw [Hgk.out]; omega
      case rel => exact ⟨k + 1, by omega, rfl, by go_num, by rw [Hsu.out]; go_num, hbel⟩
    · have ek : k = N := by omega
      subst k
      have hq : ((fstB S N : Int) + 63) / 64 = (W : Int) := by rw [HW.out]; omega
      have hfN : fstB S N ≤ 100000 := by have := fstB_le S N; omega
      generalize fstB S N = fN at hq hfN ⊢
      clear hlt hk Hgk
      go_upto_region 26 with fail
      rw [hq]
      clear hq hfN
      go_wp2_with fail
      go_loopg [16] nm (fun gk kv wr => ∃ k : Nat, k ≤ nm ∧ Hid (gk = nm - k) ∧ kv = .int .i64 (k : Int) ∧ Below w3.heap.size w3 wr)
      case atStart => exact ⟨0, Nat.zero_le _, rfl, rfl, hbel⟩
      case round =>
        clear hbel
        obtain ⟨k, hk, Hgk, rfl, hbel⟩ := hrel
        by_cases hlt : k < nm
        · have hm := (HH.out.to hbel).mv hlt
          go_wp2
          go_roundg (nm - (k + 1))
          case measure => rw [Hgk.out]; omega
          case rel => exact ⟨k + 1, by omega, rfl, by go_num, hbel⟩
        · have ek : k = nm := by omega
          subst k
          have hmk := run_make_row' (P := Try.prog) 37 40 (.int .u64 0) 8 Try.underlying37 info40 rfl .i64 .i64 W (by omega) (by omega)
          have hsz := hbel.size
          clear hlt hk Hgk
          go_upto_region 33 with fail
          obtain ⟨w4, ga, gb, Hw4⟩ : ∃ (w4 : World) (ga gb : Nat), Hid (w4 = ((wr.alloc (.cells (madeCells #[.int .u64 0] W) 40)).alloc (.cells (madeCells #[.int .u64 0] W) 40)) ∧ ga = wr.heap.size ∧ gb = wr.heap.size + 1) := ⟨_, _, _, rfl, rfl, rfl⟩
          rw [← Hw4.out.1, ← Hw4.out.2.2, ← Hw4.out.2.1]
          have hra : w4.rowIs ga 40 W (bcell fun b => (Tall S 0).contains b) := by
            rw [Hw4.out.1, Hw4.out.2.1]; exact ((World.rowIs_made wr _ W 40).alloc _).congr fun j _ => by simp [bcell, Tall, Pl.word_zero]
          have hrb : w4.rowIs gb 40 W (bcell fun b => (Nall S 0).contains b) := by
            rw [Hw4.out.1, Hw4.out.2.2]; exact (row_made_second wr _ W _ 40).congr fun j _ => by simp [bcell, Nall, Pl.word_zero]
          have hga : w3.heap.size ≤ ga := by rw [Hw4.out.2.1]; exact hsz
          have hgb : w3.heap.size ≤ gb := by rw [Hw4.out.2.2]; omega
          have hab : ga ≠ gb := by rw [Hw4.out.2.1, Hw4.out.2.2]; omega
          have hbel4 : Below w3.heap.size w3 w4 := by
            rw [Hw4.out.1]
            exact (hbel.alloc hsz _).alloc (by simp; omega) _
          clear Hw4 hmk hsz hbel
          go_wp2_with fail
          go_loopg [19] N (fun gi iv wi => ∃ i : Nat, i ≤ N ∧ Hid (gi = N - i) ∧ iv = .int .i64 (i : Int) ∧ wi.rowIs ga 40 W (bcell fun b => (Tall S i).contains b) ∧ wi.rowIs gb 40 W (bcell fun b => (Nall S i).contains b) ∧ Below w3.heap.size w3 wi)
          case atStart => exact ⟨0, Nat.zero_le _, rfl, rfl, hra, hrb, hbel4⟩
          case round =>
            clear hra hrb hbel4
            obtain ⟨i, hi, Hgi, rfl, hra, hrb, hbel⟩ := hrel
            by_cases hlt : i < N
            · have hcf := (HH.out.to hbel).first hlt
              have hcl := (HH.out.to hbel).last hlt
              have hlb := lstB_bound S hlt
              have hbd := fstB_le S N
              have hfl : fstB S i ≤ lstB S i := by unfold lstB; omega
              have hW1 : fstB S i / 64 < W := by rw [HW.out]; omega
              have hW2 : lstB S i / 64 < W := by rw [HW.out]; omega
              have HS1 : Hid _ := setW_any ga W W (fstB S i) _ wr hW1 (by omega) hra
              go_wp2_with fail
              refine Calls.mono HS1.out ?_
              rintro e w5 ⟨rfl, hra5, ho5⟩
              have hrb5 := ho5.row hab.symm hrb
              have hbel5 := hbel.trans (ho5.below hga)
              have hcl5 := (HH.out.to hbel5).last hlt
              have HS2 : Hid _ := setW_any gb W W (lstB S i) _ w5 hW2 (by omega) hrb5
              clear hra hrb hbel hcf hcl HS1
              go_wp2_with fail
              refine Calls.mono HS2.out ?_
              rintro e w6 ⟨rfl, hrb6, ho6⟩
              have hra6 := ho6.row hab hra5
              have hbel6 := hbel5.trans (ho6.below hgb)
              clear HS2
              go_wp2
              go_roundg (N - (i + 1))
              case measure => rw [Hgi.out]; omega
              case rel =>
                refine ⟨i + 1, by omega, rfl, by go_num, hra6.congr fun j _ => ?_, hrb6.congr fun j _ => ?_, hbel6⟩
                · unfold bcell
                  rw [Pl.word_congr _ (fun b => (Tall S (i + 1)).contains b) j fun b _ => ?_]
                  exact bcomm _ _ _
                · unfold bcell
                  rw [Pl.word_congr _ (fun b => (Nall S (i + 1)).contains b) j fun b _ => ?_]
                  exact bcomm _ _ _
            · have ei : i = N := by omega
              subst i
              clear hlt hi Hgi
              go_wp2_with fail
              go_loopg [20] W (fun gq qv wq => ∃ q : Nat, q ≤ W ∧ Hid (gq = W - q) ∧ qv = .int .i64 (q : Int) ∧ wq.rowIs ga 40 W (bcell fun b => (Tall S N).contains b) ∧ wq.rowIs gb 40 W (bcell fun b => (Nall S N).contains b) ∧ Below w3.heap.size w3 wq)
              case atStart => exact ⟨0, Nat.zero_le _, rfl, rfl, hra, hrb, hbel⟩
              case round =>
                clear hra hrb hbel
                obtain ⟨q, hqq, Hgq, rfl, hra, hrb, hbel⟩ := hrel
                by_cases hlt : q < W
                · obtain ⟨x, Hx⟩ : ∃ x : Int, Hid (x = ((Pl.word (fun b => (Tall S N).contains b) q : Nat) : Int)) := ⟨((Pl.word (fun b => (Tall S N).contains b) q : Nat) : Int), rfl⟩
                  obtain ⟨y, Hy⟩ : ∃ x : Int, Hid (x = ((Pl.word (fun b => (Nall S N).contains b) q : Nat) : Int)) := ⟨((Pl.word (fun b => (Nall S N).contains b) q : Nat) : Int), rfl⟩
                  have hc1 : wr.cell? ⟨ga, q, none⟩ = some (.int .u64 x) := by rw [Hx.out]; exact hra.cell hlt
                  have hc2 : wr.cell? ⟨gb, q, none⟩ = some (.int .u64 y) := by rw [Hy.out]; exact hrb.cell hlt
                  have hc3 : wr.cell? ⟨G 1, q, none⟩ = some (.int .u64 x) := by
                    rw [Hx.out, (HH.out.to hbel).row (x := 1) (by omega) hlt, HF.out]; rfl
                  have hc4 : wr.cell? ⟨G 2, q, none⟩ = some (.int .u64 y) := by
                    rw [Hy.out, (HH.out.to hbel).row (x := 2) (by omega) hlt, HF.out]; rfl
                  have hc5 : wr.cell? ⟨G (3 + 0), q, none⟩ = some (.int .u64 0) := by
                    rw [(HH.out.to hbel).row (x := 3 + 0) (by omega) hlt, HF.out, Pl.word_congr _ (fun _ => false) q fun b _ => HCI.out.empty0 _ _ _ _, Pl.word_zero]; rfl
                  have hc6 := (HH.out.to hbel).mv (k := 0) (by omega)
                  have h0 : (0 : Int) < (nm : Int) := by omega
                  generalize G (3 + 0) = g3 at hc5 hc6
                  go_upto_region 41 with fail
                  go_quiet (fail)
                  rename Nat => n1
                  go_wp2
                  go_roundg (W - (q + 1))
                  case measure => rw [Hgq.out]; omega
                  case rel => exact ⟨q + 1, by omega, rfl, by go_num, hra, hrb, below_drewN hbel n1⟩
                · clear hra hrb
                  have c47 : wr.cell? ⟨bc, 47, none⟩ = some (.int .u16 1) := by rw [(HH.out.to hbel).clsAt (by decide), HCI.out.slash]; rfl
                  have c42 : wr.cell? ⟨bc, 42, none⟩ = some (.int .u16 0) := by rw [(HH.out.to hbel).clsAt (by decide), HCI.out.zero42]; rfl
                  have hz := zero46
                  go_upto_region 46 with fail
                  obtain ⟨w5, gp, Hw5⟩ : ∃ (w5 : World) (gp : Nat), Hid (w5 = wr.alloc (.cells Z46 46) ∧ gp = wr.heap.size) := ⟨_, _, rfl, rfl⟩
                  rw [← Hw5.out.1, ← Hw5.out.2]
                  have hrp0 : w5.rowIs gp 46 256 (tcell (Pl.prE (Eall S 0))) := by
                    rw [Hw5.out.1, Hw5.out.2]; exact (row46 wr).congr fun j _ => rfl
                  have hgp : w3.heap.size ≤ gp := by rw [Hw5.out.2]; exact hbel.size
                  have hbel5 : Below w3.heap.size w3 w5 := by rw [Hw5.out.1]; exact hbel.alloc hbel.size _
                  clear Hw5 hz c47 c42 hbel hlt hqq Hgq
                  go_wp2_with fail
                  go_loopg [22] N (fun gi iv wi => ∃ i : Nat, i ≤ N ∧ Hid (gi = N - i) ∧ iv = .int .i64 (i : Int) ∧ wi.rowIs gp 46 256 (tcell (Pl.prE (Eall S i))) ∧ Below w3.heap.size w3 wi)
                  case atStart => exact ⟨0, Nat.zero_le _, rfl, rfl, hrp0, hbel5⟩
                  case round =>
                    clear hrp0 hbel5
                    obtain ⟨i, hi, Hgi, rfl, hrp, hbel⟩ := hrel
                    by_cases hlt : i < N
                    · obtain ⟨gs, rfl, hrs⟩ := (HH.out.to hbel).str (by omega)
                      have hcs : wr.cell? ⟨gs, i, none⟩ = some (.string (S i)) := hrs.cell hlt
                      have hsi : (S i).size ≤ 65536 := Nat.le_trans (size_le_tot S hlt) htot
                      have HPL : Hid ((pat S i).length = (S i).size) := pat_length S i
                      go_wp2_with fail
                      clear hcs hrs
                      go_loopg [24] (S i).size (fun gj jv wj => ∃ j : Nat, j ≤ (S i).size ∧ Hid (gj = (S i).size - j) ∧ jv = .int .i64 (j : Int) ∧ wj.rowIs gp 46 256 (tcell (Pl.prE (Eall S i ++ Pl.evs (fstB S i) ((pat S i).take j)))) ∧ Below w3.heap.size w3 wj)
                      case atStart => exact ⟨0, Nat.zero_le _, rfl, rfl, by simpa [Pl.evs] using hrp, hbel⟩
                      case round =>
                        clear hrp hbel
                        obtain ⟨j, hj, Hgj, rfl, hrp, hbel⟩ := hrel
                        by_cases hjl : j < (S i).size
                        · have hjp : Hid (j < (pat S i).length) := by show _ < _; rw [HPL.out]; exact hjl
                          have Hev : Hid (Pl.evs (fstB S i) ((pat S i).take (j + 1)) = Pl.evs (fstB S i) ((pat S i).take j) ++ (if (S i)[j]'hjl == 42 then [] else [((S i)[j]'hjl, fstB S i + Pl.nst ((pat S i).take j) + 1)])) := by
                            show _ = _
                            rw [take_snoc _ _ hjp.out, Pl.evs_snoc]; rfl
                          by_cases hst : (S i)[j]'hjl = 42
                          · have h3 : ((((S i)[j]'hjl).toNat : Int) == 42) = true := (star_iff _).2 hst
                            rw [show ((S i)[j]'hjl == 42) = true from by simp [hst], if_pos rfl, List.append_nil] at Hev
                            go_wp2
                            go_roundg ((S i).size - (j + 1))
                            case measure => rw [Hgj.out]; omega
                            case rel => exact ⟨j + 1, by omega, rfl, by go_num, by rw [Hev.out]; exact hrp, hbel⟩
                          · have h3 : ((((S i)[j]'hjl).toNat : Int) == 42) = false := by
                              rw [Bool.eq_false_iff]; exact fun e => hst ((star_iff _).1 e)
                            rw [show ((S i)[j]'hjl == 42) = false from by simp [hst], if_neg (by decide), ] at Hev
                            have hc256 : ((S i)[j]'hjl).toNat < 256 := ((S i)[j]'hjl).toNat_lt
                            have hc256' : (((S i)[j]'hjl).toNat : Int) < 256 := by omega
                            obtain ⟨v4, hc4⟩ : ∃ v, wr.cell? ⟨gp, ((S i)[j]'hjl).toNat, none⟩ = some v := ⟨_, hrp.cell hc256⟩
                            have hf4 := hrp.frozen ((S i)[j]'hjl).toNat
                            go_wp2
                            go_roundg ((S i).size - (j + 1))
                            case measure => rw [Hgj.out]; omega
                            case rel =>
                              refine ⟨j + 1, by omega, rfl, by go_num, ?_, hbel.setCell (p := ⟨gp, ((S i)[j]'hjl).toNat, none⟩) hgp _⟩
                              rw [Hev.out, ← List.append_assoc]
                              refine (hrp.set ((S i)[j]'hjl).toNat _).congr fun x hx => ?_
                              unfold tcell
                              rw [Pl.prE_snoc]
                              by_cases e : x = ((S i)[j]'hjl).toNat
                              · rw [if_pos e, if_pos e]
                              · rw [if_neg e, if_neg e]
                        · have ej : j = (S i).size := by omega
                          subst j
                          have Hall : Hid (Eall S (i + 1) = Eall S i ++ Pl.evs (fstB S i) ((pat S i).take (S i).size)) := by
                            show _ = _
                            rw [← HPL.out, List.take_length]; rfl
                          go_wp2
                          go_roundg (N - (i + 1))
                          case measure => rw [Hgi.out]; omega
                          case rel => exact ⟨i + 1, by omega, rfl, by go_num, by rw [Hall.out]; exact hrp, hbel⟩
                    · have ei : i = N := by omega
                      subst i
                      have hmk := run_make_row' (P := Try.prog) 47 4 (.bool false) 1 Try.underlying47 info4 rfl .i64 .i64 nm (by omega) (by omega)
                      clear hlt hi Hgi
                      go_upto_region 56 with fail
                      obtain ⟨w6, gu, Hw6⟩ : ∃ (w6 : World) (gu : Nat), Hid (w6 = wr.alloc (.cells (madeCells #[.bool false] nm) 4) ∧ gu = wr.heap.size) := ⟨_, _, rfl, rfl⟩
                      rw [← Hw6.out.1, ← Hw6.out.2]
                      have hru0 : w6.rowIs gu 4 nm (tcell (Pl.usd cls 0)) := by
                        rw [Hw6.out.1, Hw6.out.2]; exact (World.rowIs_made wr _ nm 4).congr fun j _ => rfl
                      have hrp6 : w6.rowIs gp 46 256 (tcell (Pl.prE (Eall S N))) := by rw [Hw6.out.1]; exact hrp.alloc _
                      have hgu : w3.heap.size ≤ gu := by rw [Hw6.out.2]; exact hbel.size
                      have hpu : gp ≠ gu := by rw [Hw6.out.2]; have := hrp.lt; omega
                      have hbel6 : Below w3.heap.size w3 w6 := by rw [Hw6.out.1]; exact hbel.alloc hbel.size _
                      clear Hw6 hmk hbel hrp
                      go_wp2_with fail
                      go_loopg [26, 27] 256 (fun gc dv cv wc => ∃ c : Nat, c ≤ 256 ∧ Hid (gc = 256 - c) ∧ cv = .int .i64 (c : Int) ∧ dv = .int .i64 ((Pl.own cls c : Nat) : Int) ∧ wc.rowIs gp 46 256 (tcell (Pl.prE (Eall S N))) ∧ wc.rowIs gu 4 nm (tcell (Pl.usd cls c)) ∧ Below w3.heap.size w3 wc)
                      case atStart => exact ⟨0, Nat.zero_le _, rfl, rfl, rfl, hrp6, hru0, hbel6⟩
                      case round =>
                        clear hrp6 hru0 hbel6
                        obtain ⟨c, hc, Hgc, rfl, rfl, hrp, hru, hbel⟩ := hrel
                        have hownc := Pl.own_le cls c
                        by_cases hlt : c < 256
                        · by_cases h47 : c = 47
                          · subst h47
                            have Hown := Pl.own_skip (cls := cls) 47 (.inl rfl)
                            have HO : Hid _ := Hown
                            clear Hown
                            generalize Pl.own cls 47 = o47 at HO hownc ⊢
                            go_wp2
                            go_roundg (256 - (47 + 1))
                            case measure => rw [Hgc.out]; omega
                            case rel => exact ⟨47 + 1, by omega, rfl, by go_num, by rw [HO.out], hrp, hru.congr fun k _ => by simp only [tcell]; rw [Pl.usd_skip 47 k (.inl rfl)], hbel⟩
                          · by_cases h42 : c = 42
                            · subst h42
                              have HO : Hid _ := Pl.own_skip (cls := cls) 42 (.inr HCI.out.zero42)
                              generalize Pl.own cls 42 = o42 at HO hownc ⊢
                              go_wp2
                              go_roundg (256 - (42 + 1))
                              case measure => rw [Hgc.out]; omega
                              case rel => exact ⟨42 + 1, by omega, rfl, by go_num, by rw [HO.out], hrp, hru.congr fun k _ => by simp only [tcell]; rw [Pl.usd_skip 42 k (.inr HCI.out.zero42)], hbel⟩
                            · have e47 : ((c : Int) == 47) = false := by rw [beq_eq_false_iff_ne]; omega
                              have e42 : ((c : Int) == 42) = false := by rw [beq_eq_false_iff_ne]; omega
                              have hcc := (HH.out.to hbel).clsAt hlt
                              have hcp : wr.cell? ⟨gp, c, none⟩ = some (.bool (decide (cls c ≠ 0))) := by
                                rw [hrp.cell hlt, tcell, HCI.out.pres hlt h47]
                              by_cases h0 : cls c = 0
                              · have HO : Hid _ := Pl.own_skip (cls := cls) c (.inr h0)
                                have hcp' : wr.cell? ⟨gp, c, none⟩ = some (.bool false) := by rw [hcp]; simp [h0]
                                rw [h0] at hcc
                                clear hcp
                                generalize Pl.own cls c = oc at HO hownc ⊢
                                go_wp2
                                go_roundg (256 - (c + 1))
                                case measure => rw [Hgc.out]; omega
                                case rel => exact ⟨c + 1, by omega, rfl, by go_num, by rw [HO.out], hrp, hru.congr fun k _ => by simp only [tcell]; rw [Pl.usd_skip c k (.inr h0)], hbel⟩
                              · have HO : Hid _ := Pl.own_new (cls := cls) c h47 h0
                                have hcp' : wr.cell? ⟨gp, c, none⟩ = some (.bool true) := by rw [hcp]; simp [h0]
                                have hrg := HCI.out.range hlt h47 h0
                                have HU : Hid _ := fun k => Pl.usd_new (cls := cls) c k h47 h0
                                have hcu : wr.cell? ⟨gu, cls c, none⟩ = some (.bool false) := by rw [hru.cell hrg.2, tcell, HCI.out.unused hlt h0]
                                have hfu := hru.frozen (cls c)
                                have hk0 : ((cls c : Int) != 0) = true := by rw [bne_iff_ne]; omega
                                have hk1 : ((cls c : Int) == 0) = false := by rw [beq_eq_false_iff_ne]; omega
                                clear hcp
                                generalize Pl.own cls c = oc at HO hownc ⊢
                                generalize cls c = kc at hcc h0 hrg HU hcu hfu hk0 hk1
                                go_wp2
                                go_roundg (256 - (c + 1))
                                case measure => rw [Hgc.out]; omega
                                case rel =>
                                  refine ⟨c + 1, by omega, rfl, by go_num, by rw [HO.out]; go_num, hrp.setOther (by simpa using hpu) _, ?_, hbel.setCell (p := ⟨gu, kc, none⟩) hgu _⟩
                                  refine (hru.set kc _).congr fun k hk => ?_
                                  unfold tcell
                                  rw [HU.out k]
                                  by_cases e : k = kc
                                  · rw [if_pos e, if_pos e]
                                  · rw [if_neg e, if_neg e]
                        · have ec : c = 256 := by omega
                          subst c
                          have hcount := HCI.out.count
                          generalize Pl.own cls 256 = oc at hcount hownc ⊢
                          have e2 : ((nm : Int) == 2 + (oc : Int)) = true := by rw [beq_iff_eq]; omega
                          go_wp2
                          go_ret
                          refine ⟨?_, HB.out.trans (hbel.mono HB.out.size)⟩
                          first
                            | rfl
                            | (show Ending.returned (Value.bool ((nm : Int) == 2 + (oc : Int))) = _; rw [e2])
end Go.Proofs.Qxb6001183a
