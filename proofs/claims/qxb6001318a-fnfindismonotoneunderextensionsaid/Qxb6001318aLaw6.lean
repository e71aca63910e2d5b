/-
  THE SECOND LAW: what Find reports in b it reports in a + b + c.
-/
import Derived.Test.Qxb6001318aLaw5
namespace Go.Proofs.Qxb6001318a
open Go.RowKit
set_option linter.unusedSimpArgs false
set_option linter.unusedVariables false

theorem occ_more (s p q r : List UInt8) (h : Pl.occ s q = true) : Pl.occ s (p ++ q ++ r) = true := by
  rw [Pl.occ_iff] at h ⊢
  obtain ⟨u, v, e⟩ := h
  exact ⟨p ++ u, v ++ r, by rw [← e]; simp⟩

theorem cat_list (p q r : ByteArray) : (p ++ q ++ r).data.toList = p.data.toList ++ q.data.toList ++ r.data.toList := by
  simp

set_option maxHeartbeats 1000000 in
set_option maxRecDepth 100000 in
theorem law6 (a : Option Addr) (N cap : Nat) (S : Nat → ByteArray) (p q r : ByteArray) (w : World) (hl : N ≤ maxLen) (hnil : a = none → N = 0 ∧ cap = 0) (hS : SArg w a N S) (hsz : ∀ k, k < N → (S k).size ≤ maxLen) (hp : p.size ≤ maxLen) (hq : q.size ≤ maxLen) (hr : r.size ≤ maxLen) :
    Calls Try.prog 6 #[.slice a N cap, .string p, .string q, .string r] w fun e w' => e = .returned (.bool true) ∧ Below w.heap.size w w' := by
  have HS : Hid (SArg w a N S) := hS
  have Hnil : Hid (a = none → N = 0 ∧ cap = 0) := hnil
  have HZ : Hid _ := zzBytes6 a N cap S p q r w hl hS hsz hp hq hr
  have HP : Hid _ := patternBytes_any a N cap S w hl hS hsz
  clear hS hnil hsz
  unfold maxLen at hl hp hq hr
  go_enter Try.func6, Try.ntmps6
  go_wp2_with fail
  refine Calls.mono HZ.out ?_
  rintro e w' ⟨⟨b0, rfl⟩, hw'⟩
  subst w'
  clear HZ
  cases b0
  · go_wp2
    go_ret
    exact ⟨rfl, Below.refl _ _⟩
  go_wp2_with fail
  refine Calls.mono HP.out ?_
  rintro e w' ⟨⟨t, rfl, ht0, ht1, hte⟩, hw'⟩
  subst w'
  have Hte : Hid _ := hte
  clear hte HP
  by_cases htn : t < 0
  · go_wp2
    go_ret
    exact ⟨rfl, Below.refl _ _⟩
  have htn' : decide (t < 0) = false := by simpa using htn
  by_cases hpl : p.size ≤ 1048576
  case neg =>
    have h1 : ((p.size : Int) > 1048576) := by omega
    go_wp2
    go_ret
    exact ⟨rfl, Below.refl _ _⟩
  by_cases hql : q.size ≤ 1048576
  case neg =>
    have h1 : ((q.size : Int) > 1048576) := by omega
    go_wp2
    go_ret
    exact ⟨rfl, Below.refl _ _⟩
  by_cases hrl : r.size ≤ 1048576
  case neg =>
    have h1 : ((r.size : Int) > 1048576) := by omega
    go_wp2
    go_ret
    exact ⟨rfl, Below.refl _ _⟩
  by_cases hsum : t + (p.size : Int) + (q.size : Int) + (r.size : Int) ≤ 1048576
  case neg =>
    go_wp2
    go_ret
    exact ⟨rfl, Below.refl _ _⟩
  have hN65 : N ≤ 65536 := (Hte.out (by omega)).1
  have htot : tot S N ≤ 1048576 := by have := (Hte.out (by omega)).2; omega
  have HC : Hid _ := clone_any a N cap S w hN65 Hnil.out HS.out
  go_wp2_with fail
  refine Calls.mono HC.out ?_
  rintro e w1 ⟨a0, cap0, rfl, hown, hb1⟩
  have hown0 : OwnStrs 0 w1 a0 N S := fun h => let ⟨g, e, _, hr⟩ := hown h; ⟨g, e, Nat.zero_le _, hr⟩
  have HZ : Hid _ := build_any a0 N cap0 S w1 hN65 htot hown0
  have HB1 : Hid (Below w.heap.size w w1) := hb1
  clear HC hown hown0 hb1 Hte HS Hnil
  go_upto_region 9 with fail
  go_wp2_with fail
  refine Calls.mono HZ.out ?_
  rintro e w2 ⟨gm, gl, gf, gF, gO, ge, gd, St, T, L, par, lab, F, O, Rv, R, en, Dn, rfl, hMM, hLl, hSt, hTN, hsrt, hMI, hat, hb2⟩
  have HFind : Hid (∀ wx x, x.size ≤ 1048576 → Below w2.heap.size w2 wx → Calls Try.prog 16 #[.pointer (some ⟨gm, 0, none⟩), .string x] wx (FindPost wx T x gd N)) := fun wx x hx hb =>
    find_any gm gl gf gF gO ge gd St T.length N wx x (hMM.below hb (Nat.le_refl _)) hMI hLl hSt rfl (by omega) hsrt hx
  have HFi : Hid _ := HFind.out w2 q hql (Below.refl _ _)
  have HB2 : Hid (Below w.heap.size w w2) := HB1.out.trans (hb2.mono HB1.out.size)
  have Hrd : Hid (w2.rowIs gd 21 N (dcell Dn)) := hMM.rd
  have Hat : Hid (∀ i, i < N → ∃ h : Dn i < T.length, T[Dn i] = S i) := hat
  clear HZ HB1 hMM hLl hSt hsrt hMI hat hb2
  go_upto_region 10 with fail
  go_wp2_with fail
  refine Calls.mono HFi.out ?_
  rintro e w3 ⟨gb, W, G, rfl, hrb, hWT, hG, hgb, hb3⟩
  have HFF : Hid (FF w3 S q N gd gb W Dn G) := ff_of hTN (by omega) Hrd.out hb3 Hat.out hrb hWT hG
  have HB23 : Hid (Below w2.heap.size w2 w3) := hb3
  have hz := zero40
  clear HFi hrb hWT hG hgb hb3
  go_upto_region 11 with fail
  obtain ⟨w4, g7, Hw4⟩ : ∃ (w4 : World) (g7 : Nat), Hid (w4 = w3.alloc (.cells #[.slice (some ⟨gd, 0, none⟩) N N, .slice (some ⟨gb, 0, none⟩) W W] 40) ∧ g7 = w3.heap.size) := ⟨_, _, rfl, rfl⟩
  rw [← Hw4.out.1, ← Hw4.out.2]
  have hb34 : Below w3.heap.size w3 w4 := by rw [Hw4.out.1]; exact (Below.refl _ w3).alloc (Nat.le_refl _) _
  have HR7 : Hid (w4.rowIs g7 40 2 (fcell gd N gb W)) := by
    show World.rowIs _ _ _ _ _
    rw [Hw4.out.1]; exact row_found w3 gd N gb W g7 Hw4.out.2
  have HF4 : Hid (FF w4 S q N gd gb W Dn G) := HFF.out.to hb34
  have HB24 : Hid (Below w2.heap.size w2 w4) := HB23.out.trans (hb34.mono HB23.out.size)
  have Hsum : Hid ((p ++ q ++ r).size ≤ 1048576) := by show _ ≤ _; simp; omega
  have HFi2 : Hid _ := HFind.out w4 (p ++ q ++ r) Hsum.out HB24.out
  clear Hw4 HFF HB23 hb34
  go_wp2_with fail
  refine Calls.mono HFi2.out ?_
  rintro e w5 ⟨gb2, W2, G2, rfl, hrb2, hWT2, hG2, hgb2, hb45⟩
  have HB25 : Hid (Below w2.heap.size w2 w5) := HB24.out.trans (hb45.mono HB24.out.size)
  have HFF2 : Hid (FF w5 S (p ++ q ++ r) N gd gb2 W2 Dn G2) := ff_of hTN (by omega) Hrd.out HB25.out Hat.out hrb2 hWT2 hG2
  have HF5 : Hid (FF w5 S q N gd gb W Dn G) := HF4.out.to hb45
  have HR75 : Hid (w5.rowIs g7 40 2 (fcell gd N gb W)) := HR7.out.of_block (hb45.block _ HR7.out.lt)
  clear HFi2 hrb2 hWT2 hG2 hgb2 hb45 HFind HF4 HR7 HB24
  go_upto_region 12 with fail
  obtain ⟨w6, g8, Hw6⟩ : ∃ (w6 : World) (g8 : Nat), Hid (w6 = w5.alloc (.cells #[.slice (some ⟨gd, 0, none⟩) N N, .slice (some ⟨gb2, 0, none⟩) W2 W2] 40) ∧ g8 = w5.heap.size) := ⟨_, _, rfl, rfl⟩
  rw [← Hw6.out.1, ← Hw6.out.2]
  have hb56 : Below w5.heap.size w5 w6 := by rw [Hw6.out.1]; exact (Below.refl _ w5).alloc (Nat.le_refl _) _
  have HR8 : Hid (w6.rowIs g8 40 2 (fcell gd N gb2 W2)) := by
    show World.rowIs _ _ _ _ _
    rw [Hw6.out.1]; exact row_found w5 gd N gb2 W2 g8 Hw6.out.2
  have HR7 : Hid (w6.rowIs g7 40 2 (fcell gd N gb W)) := HR75.out.of_block (hb56.block _ HR75.out.lt)
  have HF6 : Hid (FF w6 S q N gd gb W Dn G) := HF5.out.to hb56
  have HH6 : Hid (FF w6 S (p ++ q ++ r) N gd gb2 W2 Dn G2) := HFF2.out.to hb56
  have HB6 : Hid (Below w.heap.size w w6) := HB2.out.trans ((HB25.out.trans (hb56.mono HB25.out.size)).mono HB2.out.size)
  clear Hw6 HFF2 HF5 HR75 HB25 hb56 hz HB2 Hrd Hat Hsum
  go_upto_region 13 with fail
  go_wp2_with fail
  go_loopg [13] N (fun g v13 wk => ∃ i : Nat, i ≤ N ∧ Hid (g = N - i) ∧ v13 = .int .i64 (i : Int) ∧ Hid (Below w6.heap.size w6 wk))
  case atStart => exact ⟨0, Nat.zero_le _, rfl, rfl, Below.refl _ _⟩
  case round =>
    obtain ⟨i, hi, Hg, rfl, Hbel⟩ := hrel
    by_cases hiN : i < N
    · have hr7 : wr.rowIs g7 40 2 (fcell gd N gb W) := HR7.out.of_block (Hbel.out.block _ HR7.out.lt)
      have hr8 : wr.rowIs g8 40 2 (fcell gd N gb2 W2) := HR8.out.of_block (Hbel.out.block _ HR8.out.lt)
      have hc0 : wr.cell? ⟨g7, 0, none⟩ = some (.slice (some ⟨gd, 0, none⟩) N N) := hr7.cell (by omega)
      have hc1 : wr.cell? ⟨g7, 1, none⟩ = some (.slice (some ⟨gb, 0, none⟩) W W) := hr7.cell (by omega)
      have HR8r : Hid (wr.rowIs g8 40 2 (fcell gd N gb2 W2)) := hr8
      have HF : Hid (FF wr S q N gd gb W Dn G) := HF6.out.to Hbel.out
      have HH : Hid (FF wr S (p ++ q ++ r) N gd gb2 W2 Dn G2) := HH6.out.to Hbel.out
      obtain ⟨b, Hb⟩ : ∃ b, Hid (b = Pl.occ (S i).data.toList q.data.toList) := ⟨_, rfl⟩
      obtain ⟨b2, Hb2⟩ : ∃ b2, Hid (b2 = Pl.occ (S i).data.toList (p ++ q ++ r).data.toList) := ⟨_, rfl⟩
      have Hmon : Hid (b = true → b2 = true) := by
        intro e
        rw [Hb2.out, cat_list]
        rw [Hb.out] at e
        exact occ_more _ _ _ _ e
      have hHas := HF.out.has hiN hN65
      rw [← Hb.out] at hHas
      have HHas : Hid _ := hHas
      clear hHas hr7 hr8
      go_upto_region 15 with fail
      go_wp2_with fail
      refine Calls.mono HHas.out ?_
      rintro e w7 ⟨rfl, hb7⟩
      have Hbel7 : Hid (Below w6.heap.size w6 w7) := Hbel.out.trans (hb7.mono Hbel.out.size)
      have hHas2 := (HH.out.to hb7).has hiN hN65
      rw [← Hb2.out] at hHas2
      have HHas2 : Hid _ := hHas2
      have hr8 : w7.rowIs g8 40 2 (fcell gd N gb2 W2) := HR8r.out.of_block (hb7.block _ HR8r.out.lt)
      have hd0 : w7.cell? ⟨g8, 0, none⟩ = some (.slice (some ⟨gd, 0, none⟩) N N) := hr8.cell (by omega)
      have hd1 : w7.cell? ⟨g8, 1, none⟩ = some (.slice (some ⟨gb2, 0, none⟩) W2 W2) := hr8.cell (by omega)
      clear HHas hHas2 hb7 hr8 hc0 hc1 HR8r HF HH
      cases b
      · go_wp2
        go_roundg (N - (i + 1))
        case measure => rw [Hg.out]; omega
        case rel => exact ⟨i + 1, by omega, rfl, by go_num, Hbel7⟩
      · have e2 := Hmon.out rfl
        rw [e2] at HHas2
        go_wp2_with fail
        refine Calls.mono HHas2.out ?_
        rintro e w8 ⟨rfl, hb8⟩
        have Hbel8 : Hid (Below w6.heap.size w6 w8) := Hbel7.out.trans (hb8.mono Hbel7.out.size)
        clear HHas2 hb8 hd0 hd1
        go_wp2
        go_roundg (N - (i + 1))
        case measure => rw [Hg.out]; omega
        case rel => exact ⟨i + 1, by omega, rfl, by go_num, Hbel8⟩
    · have ei : i = N := by omega
      subst ei
      go_wp2
      go_ret
      exact ⟨rfl, HB6.out.trans (Hbel.out.mono HB6.out.size)⟩
end Go.Proofs.Qxb6001318a
