/-
  THE WALK of FnPatternSetMatchesGlobs.
-/
import Derived.Test.Qxb6001183aHd
import Derived.Test.Qxb6001183aNfa
import Derived.Test.Qxb6001183aGlob
import Derived.Deep.DeepCutAuto
import Derived.Deep.RegionHeld3
import Derived.Deep.RegionLaw
import Derived.Deep.Light
import Derived.BigQuiet
namespace Go.Proofs.Qxb6001183a
open Go.RowKit
set_option linter.unusedSimpArgs false
set_option linter.unusedVariables false

theorem shift_word (F M : Nat → Bool) (q : Nat) : bits .and .u64 (bits .or .u64 (IntKind.u64.wrap (((Pl.word F q : Nat) : Int) * 2)) ((if q = 0 then 0 else Pl.word F (q - 1) / 2 ^ 63 : Nat) : Int)) ((Pl.word M q : Nat) : Int) = ((Pl.word (fun b => (decide (0 < b) && F (b - 1)) && M b) q : Nat) : Int) := by
  have hl : (if q = 0 then 0 else Pl.word F (q - 1) / 2 ^ 63 : Nat) < 18446744073709551616 := by
    split
    · decide
    · exact Nat.lt_of_le_of_lt (Nat.div_le_self _ _) (Pl.word_lt F _)
  have hl2 : Pl.word F q * 2 % 18446744073709551616 < 18446744073709551616 := Nat.mod_lt _ (by decide)
  rw [IntKind.wrap_u64, show ((Pl.word F q : Nat) : Int) * 2 % 18446744073709551616 = ((Pl.word F q * 2 % 18446744073709551616 : Nat) : Int) from by omega,
    u64_or_nat _ _ hl2 hl, u64_and_nat _ _ (Nat.or_lt_two_pow (n := 64) hl2 hl) (Pl.word_lt M q), Pl.word_shift]

theorem step_slash (F M St : Nat → Bool) (q : Nat) (c : UInt8) (h : c = 47) : bits .and .u64 (bits .or .u64 (IntKind.u64.wrap (((Pl.word F q : Nat) : Int) * 2)) ((if q = 0 then 0 else Pl.word F (q - 1) / 2 ^ 63 : Nat) : Int)) ((Pl.word M q : Nat) : Int) = ((Pl.word (Pl.stepF M St c F) q : Nat) : Int) := by
  rw [shift_word]
  congr 2
  funext b
  subst h
  simp [Pl.stepF]

theorem step_other (F M St : Nat → Bool) (q : Nat) (c : UInt8) (h : c ≠ 47) : bits .or .u64 (bits .and .u64 (bits .or .u64 (IntKind.u64.wrap (((Pl.word F q : Nat) : Int) * 2)) ((if q = 0 then 0 else Pl.word F (q - 1) / 2 ^ 63 : Nat) : Int)) ((Pl.word M q : Nat) : Int)) (bits .and .u64 ((Pl.word F q : Nat) : Int) ((Pl.word St q : Nat) : Int)) = ((Pl.word (Pl.stepF M St c F) q : Nat) : Int) := by
  rw [shift_word, u64_and_nat _ _ (Pl.word_lt _ _) (Pl.word_lt _ _), Pl.word_and, u64_or_nat _ _ (Pl.word_lt _ _) (Pl.word_lt _ _), Pl.word_or]
  congr 2
  funext b
  have hb : (c != 47) = true := by simp [h]
  simp [Pl.stepF, hb]

theorem got_bit (F : Nat → Bool) (l : Nat) : (bits .and .u64 (((Pl.word F (l / 64) : Nat) : Int) / 2 ^ (l % 64)) 1 == 1) = F l := by
  have e2 : ((Pl.word F (l / 64) : Nat) : Int) / 2 ^ (l % 64) = ((Pl.word F (l / 64) / 2 ^ (l % 64) : Nat) : Int) := by simp
  have hlt : Pl.word F (l / 64) / 2 ^ (l % 64) < 18446744073709551616 := Nat.lt_of_le_of_lt (Nat.div_le_self _ _) (Pl.word_lt F _)
  rw [e2, show (1 : Int) = ((1 : Nat) : Int) from rfl, u64_and_nat _ _ hlt (by decide), Nat.and_one_is_mod, Pl.word_read]
  cases F l <;> rfl

theorem row_drewN {w : World} {b t n : Nat} {f : Nat → Value} (h : w.rowIs b t n f) (k : Nat) : (w.drewN k).rowIs b t n f := h

theorem nrow_step {w : World} {b n q : Nat} {X H : Nat → Bool} {v : Int} (hr : w.rowIs b 40 n (fun j => if j < q then bcell X j else bcell H j)) (u : Unit) (hv : v = ((Pl.word X q : Nat) : Int)) : (w.setCell ⟨b, q, none⟩ (.int .u64 v)).rowIs b 40 n (fun j => if j < q + 1 then bcell X j else bcell H j) := by
  refine (hr.set q _).congr fun j hj => ?_
  by_cases e : j = q
  · subst e; rw [if_pos rfl, if_pos (by omega), hv]; rfl
  · rw [if_neg e]
    by_cases e2 : j < q
    · rw [if_pos e2, if_pos (by omega)]
    · rw [if_neg e2, if_neg (by omega)]

set_option maxHeartbeats 1000000 in
set_option maxRecDepth 100000 in
theorem lawG (a : Option Addr) (N cap : Nat) (S : Nat → ByteArray) (p : ByteArray) (w : World) (hl : N ≤ maxLen) (hnil : a = none → N = 0 ∧ cap = 0) (hS : SArg w a N S) (hsz : ∀ k, k < N → (S k).size ≤ maxLen) (hp : p.size ≤ maxLen) :
    Calls Try.prog 6 #[.slice a N cap, .string p] w fun e w' => e = .returned (.bool true) ∧ Below w.heap.size w w' := by
  have HS : Hid (SArg w a N S) := hS
  have Hnil : Hid (a = none → N = 0 ∧ cap = 0) := hnil
  have Hsz : Hid (∀ k, k < N → (S k).size ≤ maxLen) := hsz
  have HZ : Hid _ := zzBytesG a N cap S p w hl hS hsz hp
  have HP : Hid _ := patternBytes_any a N cap S w hl hS hsz
  clear hS hnil hsz
  unfold maxLen at hl hp
  go_enter Try.func6, Try.ntmps6
  go_wp2_with fail
  refine Calls.mono HZ.out ?_
  rintro e w' ⟨⟨b0, rfl⟩, hw'⟩
  subst w'
  cases b0
  · go_wp2
    go_ret
    exact ⟨rfl, Below.refl _ _⟩
  by_cases hN : N ≤ 4096
  case neg =>
    have h1 : ((N : Int) > 4096) := by omega
    go_wp2
    go_ret
    exact ⟨rfl, Below.refl _ _⟩
  by_cases hpl : p.size ≤ 4096
  case neg =>
    go_wp2
    go_ret
    exact ⟨rfl, Below.refl _ _⟩
  go_wp2_with fail
  refine Calls.mono HP.out ?_
  rintro e w' ⟨⟨t, rfl, ht0, ht1, hte⟩, hw'⟩
  subst w'
  have Hte : Hid _ := hte
  clear hte
  by_cases htb : t ≤ 65536
  case neg =>
    go_wp2
    go_ret
    exact ⟨rfl, Below.refl _ _⟩
  have hw16 : IntKind.i64.wrap (IntKind.i64.wrap (IntKind.i64.wrap (16 * (N : Int)) + t) + (p.size : Int)) = 16 * (N : Int) + t + (p.size : Int) := by
    have e1 : IntKind.i64.wrap (16 * (N : Int)) = 16 * (N : Int) := by rw [IntKind.wrap_i64]; omega
    have e2 : IntKind.i64.wrap (16 * (N : Int) + t) = 16 * (N : Int) + t := by rw [IntKind.wrap_i64]; omega
    rw [e1, e2, IntKind.wrap_i64]; omega
  have HC : Hid _ := copyStrings_any a N cap S w hN Hnil.out HS.out
  have htot : tot S N ≤ 65536 := by have := Hte.out htb; omega
  clear HZ HP
  go_wp2_with fail
  refine Calls.mono HC.out ?_
  rintro e w1 ⟨a0, cap0, rfl, hown, hb1⟩
  have hown0 : OwnStrs 0 w1 a0 N S := fun h => let ⟨g, e, _, hr⟩ := hown h; ⟨g, e, Nat.zero_le _, hr⟩
  have HZ : Hid _ := zznew a0 N cap0 S w1 hN htot hown0
  have HB1 : Hid _ := hb1
  have HO : Hid _ := hown0
  clear HC hown hown0 hb1 Hte HS Hnil hw16
  go_wp2_with fail
  refine Calls.mono HZ.out ?_
  rintro e w2 ⟨W, bf, bl, nm, cls, G, v, rfl, hW, hT, hci, hb2⟩
  have hnm := hci.nm_le
  have HCI : Hid (Pl.CI cls nm (Eall S N)) := hci
  have HW : Hid _ := hW
  clear HZ hci hW
  obtain ⟨gm, cp, rfl, _, _⟩ := hT.own.form (by omega)
  have HO2 : OwnStrs 0 w2 a0 N S := fun h => let ⟨g, e, hB, hr⟩ := HO.out h; ⟨g, e, hB, hr.of_block (hb2.block _ hr.lt)⟩
  have HH : Hid _ := hd_made (cls := cls) HO2 hT
  have HB : Hid (Below w.heap.size w ((w2.alloc (.cells Z35 35)).setCells w2.heap.size 0 (clsList cls))) := 
    (HB1.out.trans (hb2.mono HB1.out.size)).trans ((((Below.refl w.heap.size w2).alloc (Nat.le_trans HB1.out.size hb2.size) _)).trans ((only_setCells _ _ _ _).below (Nat.le_trans HB1.out.size hb2.size)))
  obtain ⟨cs, Hcs⟩ : ∃ cs, Hid (cs = clsList cls) := ⟨clsList cls, rfl⟩
  have hz := zero35
  have hst := storeC35 w2 cls
  have hcl : cs.length = 256 := by rw [Hcs.out]; exact clsList_length cls
  have Hbc : Hid (w2.heap.size < ((w2.alloc (.cells Z35 35)).setCells w2.heap.size 0 (clsList cls)).heap.size) := HH.out.cl.lt
  rw [← Hcs.out] at HH HB hst Hbc
  rw [← Hcs.out]
  clear HO HB1 HO2 hb2 hT
  unfold hdr
  go_upto_region 10 with fail
  generalize hw3 : (w2.alloc (Obj.cells Z35 35)).setCells w2.heap.size 0 cs = w3 at HH HB Hbc ⊢
  obtain ⟨F, HF⟩ : ∃ F, Hid (F = Pl.FF cls (Eall S N) (Yall S N) (Tall S N) (Nall S N)) := ⟨_, rfl⟩
  rw [← HF.out] at HH
  generalize w2.heap.size = bc at HH Hbc ⊢
  clear hz hst hcl hw3 Hcs htb ht0 ht1 hl hp
  have hWb : W ≤ 4096 := by
    have := fstB_le S N
    rw [HW.out]; omega
  go_wp2_with fail
  go_loopg [14] nm (fun gk kv wr => ∃ k : Nat, k ≤ nm ∧ Hid (gk = nm - k) ∧ kv = .int .i64 (k : Int) ∧ Below w3.heap.size w3 wr)
  case atStart => exact ⟨0, Nat.zero_le _, rfl, rfl, (Below.refl _ _)⟩
  case round =>
    obtain ⟨k, hk, Hgk, rfl, hbel⟩ := hrel
    by_cases hlt : k < nm
    · have hm := (HH.out.to hbel).mv hlt
      go_wp2
      go_roundg (nm - (k + 1))
      case measure => rw [Hgk.out]; omega
      case rel => exact ⟨k + 1, by omega, rfl, by go_num, hbel⟩
    · have ek : k = nm := by omega
      subst k
      have hmk := run_make_row' (P := Try.prog) 37 40 (.int .u64 0) 8 Try.underlying37 info40 rfl .i64 .i64 W (by omega) (by omega)
      have hsz := hbel.size
      clear hlt hk Hgk
      go_upto_region 22 with fail
      obtain ⟨w4, ga, gb, Hw4⟩ : ∃ (w4 : World) (ga gb : Nat), Hid (w4 = ((wr.alloc (.cells (madeCells #[.int .u64 0] W) 40)).alloc (.cells (madeCells #[.int .u64 0] W) 40)) ∧ ga = wr.heap.size ∧ gb = wr.heap.size + 1) := ⟨_, _, _, rfl, rfl, rfl⟩
      rw [← Hw4.out.1, ← Hw4.out.2.2, ← Hw4.out.2.1]
      have hra : w4.rowIs ga 40 W (fun _ => .int .u64 0) := by
        rw [Hw4.out.1, Hw4.out.2.1]; exact (World.rowIs_made wr _ W 40).alloc _
      have hrb : w4.rowIs gb 40 W (bcell fun _ => false) := by
        rw [Hw4.out.1, Hw4.out.2.2]; exact (row_made_second wr _ W _ 40).congr fun j _ => by simp [bcell, Pl.word_zero]
      have hga : w3.heap.size ≤ ga := by rw [Hw4.out.2.1]; exact hsz
      have hgb : w3.heap.size ≤ gb := by rw [Hw4.out.2.2]; omega
      have hab : ga ≠ gb := by rw [Hw4.out.2.1, Hw4.out.2.2]; omega
      have hbel4 : Below w3.heap.size w3 w4 := by
        rw [Hw4.out.1]
        exact (hbel.alloc hsz _).alloc (by simp; omega) _
      clear Hw4 hmk hsz hbel
      go_wp2_with fail
      go_loopg [17] W (fun gq qv wq => ∃ q : Nat, q ≤ W ∧ Hid (gq = W - q) ∧ qv = .int .i64 (q : Int) ∧ wq.rowIs ga 40 W (fun j => if j < q then bcell (F 1) j else .int .u64 0) ∧ wq.rowIs gb 40 W (bcell fun _ => false) ∧ Below w3.heap.size w3 wq)
      case atStart => exact ⟨0, Nat.zero_le _, rfl, rfl, hra, hrb, hbel4⟩
      case round =>
        obtain ⟨q, hq, Hgq, rfl, hra2, hrb2, hbel⟩ := hrel
        clear hra hrb hbel4
        by_cases hlt : q < W
        · have hc1 := hra2.cell hlt
          rw [if_neg (Nat.lt_irrefl q)] at hc1
          have hf1 := hra2.frozen q
          have hc2 := (HH.out.to hbel).row (x := 1) (q := q) (by omega) hlt
          go_wp2
          go_roundg (W - (q + 1))
          case measure => rw [Hgq.out]; omega
          case rel =>
            refine ⟨q + 1, by omega, rfl, by go_num, ?_, hrb2.setOther (by simpa using hab.symm) _, hbel.setCell (p := ⟨ga, q, none⟩) hga _⟩
            refine (hra2.set q _).congr fun j hj => ?_
            by_cases e : j = q
            · subst e; rw [if_pos rfl, if_pos (by omega)]; rfl
            · rw [if_neg e]
              by_cases e2 : j < q
              · rw [if_pos e2, if_pos (by omega)]
              · rw [if_neg e2, if_neg (by omega)]
        · have eq : q = W := by omega
          subst q
          have hra3 : wr.rowIs ga 40 W (bcell (Pl.stp (fun c b => F (3 + cls c.toNat) b) (F 0) (F 1) p.data.toList 0)) := hra2.congr fun j hj => if_pos hj
          have HPL : Hid (p.data.toList.length = p.size) := by show _ = _; simp
          clear hlt hq Hgq hra2
          go_wp2_with fail
          go_loopg [15, 16, 18] p.size (fun gm2 cu ne jv wm => ∃ (m ga gb : Nat) (H : Nat → Bool), m ≤ p.size ∧ Hid (gm2 = p.size - m) ∧ jv = .int .i64 (m : Int) ∧ cu = .slice (some ⟨ga, 0, none⟩) W W ∧ ne = .slice (some ⟨gb, 0, none⟩) W W ∧ ga ≠ gb ∧ w3.heap.size ≤ ga ∧ w3.heap.size ≤ gb ∧
              wm.rowIs ga 40 W (bcell (Pl.stp (fun c b => F (3 + cls c.toNat) b) (F 0) (F 1) p.data.toList m)) ∧ wm.rowIs gb 40 W (bcell H) ∧ Below w3.heap.size w3 wm)
          case atStart => exact ⟨0, ga, gb, _, Nat.zero_le _, rfl, rfl, rfl, rfl, hab, hga, hgb, hra3, hrb2, hbel⟩
          case round =>
            clear hra3 hrb2 hbel hab hga hgb
            obtain ⟨m, ga, gb, H, hm, Hgm, rfl, rfl, rfl, hab, hga, hgb, hra, hrb, hbel⟩ := hrel
            by_cases hlt : m < p.size
            · have hc256 : p[m].toNat < 256 := p[m].toNat_lt
              have hcn := HCI.out.lt p[m]
              have hcl := (HH.out.to hbel).clsAt hc256
              have hmv := (HH.out.to hbel).mv hcn
              have hm' : m < p.data.toList.length := by rw [HPL.out]; exact hlt
              obtain ⟨Fm, HFm⟩ : ∃ X, Hid (X = Pl.stp (fun c b => F (3 + cls c.toNat) b) (F 0) (F 1) p.data.toList m) := ⟨_, rfl⟩
              rw [← HFm.out] at hra
              have HSt : Hid (Pl.stp (fun c b => F (3 + cls c.toNat) b) (F 0) (F 1) p.data.toList (m + 1) = Pl.stepF (F (3 + cls p[m].toNat)) (F 0) p[m] Fm) := by
                show _ = _
                rw [HFm.out]; exact Pl.stp_succ _ _ _ _ _ hm'
              go_upto_region 35 with fail
              clear hcl hmv
              go_wp2_with fail
              go_loopg [22, 23] W (fun gq ca qv wq => ∃ (q : Nat) (cv : Int), q ≤ W ∧ Hid (gq = W - q) ∧ qv = .int .i64 (q : Int) ∧ ca = .int .u64 cv ∧ Hid (cv = ((if q = 0 then 0 else Pl.word Fm (q - 1) / 2 ^ 63 : Nat) : Int)) ∧
                  wq.rowIs ga 40 W (bcell Fm) ∧ wq.rowIs gb 40 W (fun j => if j < q then bcell (Pl.stepF (F (3 + cls p[m].toNat)) (F 0) p[m] Fm) j else bcell H j) ∧ Below w3.heap.size w3 wq)
              case atStart => exact ⟨0, 0, Nat.zero_le _, rfl, rfl, rfl, rfl, hra, hrb, hbel⟩
              case round =>
                clear hra hrb hbel
                obtain ⟨q, cv, hq, Hgq, rfl, rfl, Hcv, hra, hrb, hbel⟩ := hrel
                by_cases hqW : q < W
                · obtain ⟨x, Hx⟩ : ∃ x : Int, Hid (x = ((Pl.word Fm q : Nat) : Int)) := ⟨((Pl.word Fm q : Nat) : Int), rfl⟩
                  obtain ⟨y, Hy⟩ : ∃ x : Int, Hid (x = ((Pl.word (F (3 + cls p[m].toNat)) q : Nat) : Int)) := ⟨((Pl.word (F (3 + cls p[m].toNat)) q : Nat) : Int), rfl⟩
                  obtain ⟨z, Hz⟩ : ∃ x : Int, Hid (x = ((Pl.word (F 0) q : Nat) : Int)) := ⟨((Pl.word (F 0) q : Nat) : Int), rfl⟩
                  have hc1 : wr.cell? ⟨ga, q, none⟩ = some (.int .u64 x) := by rw [Hx.out]; exact hra.cell hqW
                  have hc2 : wr.cell? ⟨G (3 + cls p[m].toNat), q, none⟩ = some (.int .u64 y) := by rw [Hy.out]; exact (HH.out.to hbel).row (by omega) hqW
                  have hc3 : wr.cell? ⟨G 0, q, none⟩ = some (.int .u64 z) := by rw [Hz.out]; exact (HH.out.to hbel).row (by omega) hqW
                  obtain ⟨v4, hc4⟩ : ∃ v, wr.cell? ⟨gb, q, none⟩ = some v := ⟨_, hrb.cell hqW⟩
                  have hf4 := hrb.frozen q
                  go_upto_region 38 with fail
                  go_quiet (fail)
                  rename Nat => n1
                  by_cases h47 : p[m] = 47
                  · have h3 : ((p[m].toNat : Int) != 47) = false := by rw [ch_slash, h47]; rfl
                    have HV : Hid (bits .and .u64 (bits .or .u64 (IntKind.u64.wrap (x * 2)) cv) y = ((Pl.word (Pl.stepF (F (3 + cls p[m].toNat)) (F 0) p[m] Fm) q : Nat) : Int)) := by
                      show _ = _
                      rw [Hx.out, Hcv.out, Hy.out]; exact step_slash _ _ _ _ _ h47
                    go_wp2
                    go_roundg (W - (q + 1))
                    case measure => rw [Hgq.out]; omega
                    case rel =>
                      refine ⟨q + 1, _, by omega, rfl, by go_num, rfl, ?_, ((row_drewN hra n1).setOther (by simpa using hab) _), ?_, (below_drewN hbel n1).setCell (p := ⟨gb, q, none⟩) hgb _⟩
                      · show _ = _
                        rw [Hx.out, if_neg (by omega), Nat.add_sub_cancel]; rfl
                      · exact nrow_step (row_drewN hrb n1) () HV.out
                  · have h3 : ((p[m].toNat : Int) != 47) = true := by rw [ch_slash]; simp [h47]
                    have HV : Hid (bits .or .u64 (bits .and .u64 (bits .or .u64 (IntKind.u64.wrap (x * 2)) cv) y) (bits .and .u64 x z) = ((Pl.word (Pl.stepF (F (3 + cls p[m].toNat)) (F 0) p[m] Fm) q : Nat) : Int)) := by
                      show _ = _
                      rw [Hx.out, Hcv.out, Hy.out, Hz.out]; exact step_other _ _ _ _ _ h47
                    go_upto_region 41 with fail
                    go_quiet (fail)
                    rename Nat => n2
                    go_wp2
                    go_roundg (W - (q + 1))
                    case measure => rw [Hgq.out]; omega
                    case rel =>
                      refine ⟨q + 1, _, by omega, rfl, by go_num, rfl, ?_, ((row_drewN hra (n1 + n2)).setOther (by simpa using hab) _), ?_, (below_drewN hbel (n1 + n2)).setCell (p := ⟨gb, q, none⟩) hgb _⟩
                      · show _ = _
                        rw [Hx.out, if_neg (by omega), Nat.add_sub_cancel]; rfl
                      · exact nrow_step (row_drewN hrb (n1 + n2)) () HV.out
                · have eq : q = W := by omega
                  subst q
                  have hrb3 : wr.rowIs gb 40 W (bcell (Pl.stp (fun c b => F (3 + cls c.toNat) b) (F 0) (F 1) p.data.toList (m + 1))) := by
                    rw [HSt.out]; exact hrb.congr fun j hj => if_pos hj
                  go_wp2
                  go_roundg (p.size - (m + 1))
                  case measure => rw [Hgm.out]; omega
                  case rel => exact ⟨m + 1, gb, ga, Fm, by omega, rfl, by go_num, rfl, rfl, hab.symm, hgb, hga, hrb3, hra, hbel⟩
            · have em : m = p.size := by omega
              subst m
              rw [← HPL.out] at hra
              go_wp2_with fail
              go_loopg [25] N (fun gi iv wi => ∃ i : Nat, i ≤ N ∧ Hid (gi = N - i) ∧ iv = .int .i64 (i : Int) ∧ wi.rowIs ga 40 W (bcell (Pl.stp (fun c b => F (3 + cls c.toNat) b) (F 0) (F 1) p.data.toList p.data.toList.length)) ∧ Below w3.heap.size w3 wi)
              case atStart => exact ⟨0, Nat.zero_le _, rfl, rfl, hra, hbel⟩
              case round =>
                clear hra hrb hbel
                obtain ⟨i, hi, Hgi, rfl, hra, hbel⟩ := hrel
                by_cases hiN : i < N
                · obtain ⟨gs, rfl, hrs⟩ := (HH.out.to hbel).str (by omega)
                  have hcs : wr.cell? ⟨gs, i, none⟩ = some (.string (S i)) := hrs.cell hiN
                  have hcl := (HH.out.to hbel).last hiN
                  have hlb := lstB_bound S hiN
                  have hbd := fstB_le S N
                  have hWl : lstB S i / 64 < W := by rw [HW.out]; omega
                  have hl5 : lstB S i ≤ 100000 := by omega
                  have HR : Hid (Pl.stp (fun c b => F (3 + cls c.toNat) b) (F 0) (F 1) p.data.toList p.data.toList.length (lstB S i) = Pl.glob (S i).data.toList p.data.toList) := by
                    show _ = _
                    rw [HF.out, lstB_nst]; exact Pl.run_last (run_of HCI.out hiN) _
                  have hws := hra.cell hWl
                  have hsi : (S i).size ≤ 65536 := Nat.le_trans (size_le_tot S hiN) htot
                  generalize lstB S i = l at hcl hlb hWl hl5 HR hws
                  obtain ⟨x, Hx⟩ : ∃ x : Int, Hid (x = ((Pl.word (Pl.stp (fun c b => F (3 + cls c.toNat) b) (F 0) (F 1) p.data.toList p.data.toList.length) (l / 64) : Nat) : Int)) := ⟨((Pl.word (Pl.stp (fun c b => F (3 + cls c.toNat) b) (F 0) (F 1) p.data.toList p.data.toList.length) (l / 64) : Nat) : Int), rfl⟩
                  rw [bcell, ← Hx.out] at hws
                  have HGL : Hid _ := globMatch_any (S i) p wr hsi hpl
                  have HGot : Hid ((bits .and .u64 (x / 2 ^ (l % 64)) 1 == 1) = Pl.glob (S i).data.toList p.data.toList) := by
                    show _ = _
                    rw [Hx.out, ← HR.out]; exact got_bit _ _
                  obtain ⟨gl, Hgl⟩ : ∃ b, Hid (b = Pl.glob (S i).data.toList p.data.toList) := ⟨_, rfl⟩
                  rw [← Hgl.out] at HGot HGL
                  have h1 : (0 : Int) ≤ (l : Int) / 64 := by omega
                  have h2 : (l : Int) / 64 < (W : Int) := by omega
                  have h3 : (0 : Int) ≤ (l : Int) % 64 := by omega
                  have h4 : ¬ (l : Int) % 64 < 0 := by omega
                  have h5 : (l : Int) % 64 < 64 := by omega
                  have h6 : (l : Int) % 64 ≤ 64 := by omega
                  clear HR hlb hbd
                  go_upto_region 51 with fail
                  rw [HGot.out]
                  go_wp2_with fail
                  refine Calls.mono HGL.out ?_
                  rintro e w9 ⟨rfl, hb9⟩
                  have hbel9 := hbel.trans (hb9.mono hbel.size)
                  have hra9 := hra.of_block (hb9.block _ hra.lt)
                  clear HGL HGot
                  cases gl
                  all_goals
                    go_wp2
                    go_roundg (N - (i + 1))
                    case measure => rw [Hgi.out]; omega
                    case rel => exact ⟨i + 1, by omega, rfl, by go_num, hra9, hbel9⟩
                · have ei : i = N := by omega
                  subst i
                  go_wp2
                  go_ret
                  exact ⟨rfl, HB.out.trans (hbel.mono HB.out.size)⟩
end Go.Proofs.Qxb6001183a
