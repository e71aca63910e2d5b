/-
  THE FIRST LAW: Find reports exactly the patterns that occur.
-/
import Derived.Test.Qxb6001318aFind
namespace Go.Proofs.Qxb6001318a
open Go.RowKit
set_option linter.unusedSimpArgs false
set_option linter.unusedVariables false

/-- What the laws hold in hand of a Found. -/
structure FF (w : World) (Sx : Nat → ByteArray) (t : ByteArray) (N gd gb W : Nat) (Dn : Nat → Nat) (G : Nat → Bool) : Prop where
  rd : w.rowIs gd 21 N (dcell Dn)
  rb : w.rowIs gb 56 W (wcell G)
  lt : ∀ i, i < N → Dn i / 64 < W ∧ Dn i ≤ 1048577
  eq : ∀ i, i < N → G (Dn i) = Pl.occ (Sx i).data.toList t.data.toList

theorem FF.to {w w' : World} {Sx : Nat → ByteArray} {t : ByteArray} {N gd gb W : Nat} {Dn : Nat → Nat} {G : Nat → Bool} (h : FF w Sx t N gd gb W Dn G) (hb : Below w.heap.size w w') : FF w' Sx t N gd gb W Dn G :=
  ⟨h.rd.of_block (hb.block _ h.rd.lt), h.rb.of_block (hb.block _ h.rb.lt), h.lt, h.eq⟩

theorem FF.has {w : World} {Sx : Nat → ByteArray} {t : ByteArray} {N gd gb W : Nat} {Dn : Nat → Nat} {G : Nat → Bool} (h : FF w Sx t N gd gb W Dn G) {i : Nat} (hi : i < N) (hN : N ≤ 65536) :
    Calls Try.prog 17 #[.agg #[.slice (some ⟨gd, 0, none⟩) N N, .slice (some ⟨gb, 0, none⟩) W W], .int .i64 (i : Int)] w fun e w' => e = .returned (.bool (Pl.occ (Sx i).data.toList t.data.toList)) ∧ Below w.heap.size w w' := by
  rw [← h.eq i hi]
  exact zzHas_any gd N gb W i Dn G w hi hN (h.lt i hi).1 (h.lt i hi).2 h.rd h.rb

theorem ff_of {w w' : World} {T : List ByteArray} {Sx : Nat → ByteArray} {t : ByteArray} {N gd gb W : Nat} {Dn : Nat → Nat} {G : Nat → Bool} (hTN : T.length ≤ N) (hN : N ≤ 65536) (hrd : w.rowIs gd 21 N (dcell Dn)) (hb : Below w.heap.size w w') (hat : ∀ i, i < N → ∃ h : Dn i < T.length, T[Dn i] = Sx i) (hrb : w'.rowIs gb 56 W (wcell G)) (hW : T.length ≤ 64 * W)
    (hG : ∀ d, d < T.length → (G d = true ↔ Pl.occ (Pl.Txt T d) t.data.toList = true)) : FF w' Sx t N gd gb W Dn G := by
  refine ⟨hrd.of_block (hb.block _ hrd.lt), hrb, fun i hi => ?_, fun i hi => ?_⟩
  · obtain ⟨h, _⟩ := hat i hi
    omega
  · obtain ⟨h, e⟩ := hat i hi
    have h1 := hG _ h
    have e1 : Pl.Txt T (Dn i) = (Sx i).data.toList := by
      unfold Pl.Txt Pl.tb
      rw [Pl.getD_of h, e]
    rw [e1] at h1
    rw [Bool.eq_iff_iff]; exact h1

set_option maxHeartbeats 1000000 in
set_option maxRecDepth 100000 in
theorem law5 (a : Option Addr) (N cap : Nat) (S : Nat → ByteArray) (p : ByteArray) (w : World) (hl : N ≤ maxLen) (hnil : a = none → N = 0 ∧ cap = 0) (hS : SArg w a N S) (hsz : ∀ k, k < N → (S k).size ≤ maxLen) (hp : p.size ≤ maxLen) :
    Calls Try.prog 5 #[.slice a N cap, .string p] w fun e w' => e = .returned (.bool true) ∧ Below w.heap.size w w' := by
  have HS : Hid (SArg w a N S) := hS
  have Hnil : Hid (a = none → N = 0 ∧ cap = 0) := hnil
  have HZ : Hid _ := zzBytes5 a N cap S p w hl hS hsz hp
  have HP : Hid _ := patternBytes_any a N cap S w hl hS hsz
  clear hS hnil hsz
  unfold maxLen at hl hp
  go_enter Try.func5, Try.ntmps5
  go_wp2_with fail
  refine Calls.mono HZ.out ?_
  rintro e w' ⟨⟨b0, rfl⟩, hw'⟩
  subst w'
  clear HZ
  cases b0
  · go_wp2
    go_ret
    exact ⟨rfl, Below.refl _ _⟩
  go_wp2_with fail
  refine Calls.mono HP.out ?_
  rintro e w' ⟨⟨t, rfl, ht0, ht1, hte⟩, hw'⟩
  subst w'
  have Hte : Hid _ := hte
  clear hte HP
  by_cases htn : t < 0
  · go_wp2
    go_ret
    exact ⟨rfl, Below.refl _ _⟩
  have htn' : decide (t < 0) = false := by simpa using htn
  by_cases hN : N ≤ 4096
  case neg =>
    have h1 : ((N : Int) > 4096) := by omega
    go_wp2
    go_ret
    exact ⟨rfl, Below.refl _ _⟩
  by_cases hpl : p.size ≤ 4096
  case neg =>
    have h1 : ((p.size : Int) > 4096) := by omega
    go_wp2
    go_ret
    exact ⟨rfl, Below.refl _ _⟩
  have hN65 : N ≤ 65536 := by omega
  have htot : tot S N ≤ 1048576 := by have := Hte.out (by omega); omega
  have HC : Hid _ := clone_any a N cap S w hN65 Hnil.out HS.out
  by_cases ht4 : t - 16 * (N : Int) ≤ 4096
  case neg =>
    go_wp2
    go_ret
    exact ⟨rfl, Below.refl _ _⟩
  go_wp2_with fail
  refine Calls.mono HC.out ?_
  rintro e w1 ⟨a0, cap0, rfl, hown, hb1⟩
  have hown0 : OwnStrs 0 w1 a0 N S := fun h => let ⟨g, e, _, hr⟩ := hown h; ⟨g, e, Nat.zero_le _, hr⟩
  have HZ : Hid _ := build_any a0 N cap0 S w1 hN65 htot hown0
  have HB1 : Hid (Below w.heap.size w w1) := hb1
  have HO : Hid (OwnStrs 0 w1 a0 N S) := hown0
  clear HC hown hown0 hb1 Hte HS Hnil
  go_upto_region 9 with fail
  go_wp2_with fail
  refine Calls.mono HZ.out ?_
  rintro e w2 ⟨gm, gl, gf, gF, gO, ge, gd, St, T, L, par, lab, F, O, Rv, R, en, Dn, rfl, hMM, hLl, hSt, hTN, hsrt, hMI, hat, hb2⟩
  have HFi : Hid _ := find_any gm gl gf gF gO ge gd St T.length N w2 p hMM hMI hLl hSt rfl (by omega) hsrt (by omega)
  have HB2 : Hid (Below w.heap.size w w2) := HB1.out.trans (hb2.mono HB1.out.size)
  have HO2 : Hid (OwnStrs 0 w2 a0 N S) := fun h => let ⟨g, e, hB, hr⟩ := HO.out h; ⟨g, e, hB, hr.of_block (hb2.block _ hr.lt)⟩
  have Hrd : Hid (w2.rowIs gd 21 N (dcell Dn)) := hMM.rd
  have Hat : Hid (∀ i, i < N → ∃ h : Dn i < T.length, T[Dn i] = S i) := hat
  clear HZ HO HB1 hMM hLl hSt hsrt hMI hat hb2
  go_upto_region 10 with fail
  go_wp2_with fail
  refine Calls.mono HFi.out ?_
  rintro e w3 ⟨gb, W, G, rfl, hrb, hWT, hG, hgb, hb3⟩
  have HFF : Hid (FF w3 S p N gd gb W Dn G) := ff_of hTN (by omega) Hrd.out hb3 Hat.out hrb hWT hG
  have HB3 : Hid (Below w.heap.size w w3) := HB2.out.trans (hb3.mono HB2.out.size)
  have HO3 : Hid (OwnStrs 0 w3 a0 N S) := fun h => let ⟨g, e, hB, hr⟩ := HO2.out h; ⟨g, e, hB, hr.of_block (hb3.block _ hr.lt)⟩
  have hz := zero40
  clear HFi HO2 HB2 Hrd Hat hTN hrb hWT hG hgb hb3
  go_upto_region 11 with fail
  obtain ⟨w4, g7, Hw4⟩ : ∃ (w4 : World) (g7 : Nat), Hid (w4 = w3.alloc (.cells #[.slice (some ⟨gd, 0, none⟩) N N, .slice (some ⟨gb, 0, none⟩) W W] 40) ∧ g7 = w3.heap.size) := ⟨_, _, rfl, rfl⟩
  rw [← Hw4.out.1, ← Hw4.out.2]
  have hb34 : Below w3.heap.size w3 w4 := by rw [Hw4.out.1]; exact (Below.refl _ w3).alloc (Nat.le_refl _) _
  have HR7 : Hid (w4.rowIs g7 40 2 (fcell gd N gb W)) := by
    show World.rowIs _ _ _ _ _
    rw [Hw4.out.1]; exact row_found w3 gd N gb W g7 Hw4.out.2
  have HF4 : Hid (FF w4 S p N gd gb W Dn G) := HFF.out.to hb34
  have HB4 : Hid (Below w.heap.size w w4) := HB3.out.trans (hb34.mono HB3.out.size)
  have HO4 : Hid (OwnStrs 0 w4 a0 N S) := fun h => let ⟨g, e, hB, hr⟩ := HO3.out h; ⟨g, e, hB, hr.of_block (hb34.block _ hr.lt)⟩
  clear Hw4 HFF HB3 HO3 hb34 hz
  go_upto_region 12 with fail
  go_wp2_with fail
  go_loopg [8] N (fun g v8 wk => ∃ i : Nat, i ≤ N ∧ Hid (g = N - i) ∧ v8 = .int .i64 (i : Int) ∧ Hid (Below w4.heap.size w4 wk))
  case atStart => exact ⟨0, Nat.zero_le _, rfl, rfl, Below.refl _ _⟩
  case round =>
    obtain ⟨i, hi, Hg, rfl, Hbel⟩ := hrel
    by_cases hiN : i < N
    · obtain ⟨gs, rfl, _, hrs⟩ := HO4.out (by omega)
      have hr7 : wr.rowIs g7 40 2 (fcell gd N gb W) := HR7.out.of_block (Hbel.out.block _ HR7.out.lt)
      have hrs2 : wr.rowIs gs 9 N (scell S) := hrs.of_block (Hbel.out.block _ hrs.lt)
      have HC : Hid (∀ wx, Below wr.heap.size wr wx → wx.cell? ⟨g7, 0, none⟩ = some (.slice (some ⟨gd, 0, none⟩) N N) ∧ wx.cell? ⟨g7, 1, none⟩ = some (.slice (some ⟨gb, 0, none⟩) W W) ∧ wx.cell? ⟨gs, i, none⟩ = some (.string (S i))) := by
        intro wx hb
        have h1 := hr7.of_block (hb.block _ hr7.lt)
        have h2 := hrs2.of_block (hb.block _ hrs2.lt)
        exact ⟨h1.cell (i := 0) (by omega), h1.cell (i := 1) (by omega), h2.cell hiN⟩
      have HF : Hid (FF wr S p N gd gb W Dn G) := HF4.out.to Hbel.out
      have hsi : (S i).size ≤ 1048576 := Nat.le_trans (size_le_tot S hiN) htot
      have hpi : p.size ≤ 1048576 := by omega
      obtain ⟨b, Hb⟩ : ∃ b, Hid (b = Pl.occ (S i).data.toList p.data.toList) := ⟨_, rfl⟩
      have HHas : Hid (∀ wx, Below wr.heap.size wr wx → Calls Try.prog 17 #[.agg #[.slice (some ⟨gd, 0, none⟩) N N, .slice (some ⟨gb, 0, none⟩) W W], .int .i64 (i : Int)] wx fun e w' => e = .returned (.bool b) ∧ Below wx.heap.size wx w') := by
        intro wx hb
        rw [Hb.out]; exact (HF.out.to hb).has hiN hN65
      have HOcc : Hid (∀ wx, Calls Try.prog 18 #[.string (S i), .string p] wx fun e w' => e = .returned (.bool b) ∧ Drawn wx w') := by
        intro wx
        rw [Hb.out]; exact occurs_any (S i) p wx hsi hpi
      have hB0 : Hid (Below wr.heap.size wr wr.drew) := (Below.refl _ wr).drew
      have hc0 := (HC.out wr (Below.refl _ _)).1
      have hc1 := (HC.out wr (Below.refl _ _)).2.1
      have hcs := (HC.out wr (Below.refl _ _)).2.2
      clear hr7 hrs2 hrs HF hsi hpi
      generalize S i = si at HC HOcc hcs
      go_upto_region 14 with fail
      go_cut [55] (fun v wc => v = .bool false ∧ Hid (Below wr.heap.size wr wc))
      case first =>
        go_region_with (first | (go_at_call 17; refine Calls.mono (HHas.out _ (by first | exact hB0.out | exact below_drewN hB0.out _)) ?_; rintro e wa ⟨rfl, hba⟩; have hBa : Hid (Below wr.heap.size wr wa) := (by first | exact hB0.out.trans (hba.mono (Nat.le_refl wr.heap.size)) | exact (below_drewN hB0.out _).trans (hba.mono (Nat.le_refl wr.heap.size))); have d1 := (HC.out wa hBa.out).1; have d2 := (HC.out wa hBa.out).2.1; have d3 := (HC.out wa hBa.out).2.2; clear hba) | (go_at_call 18; refine Calls.mono (HOcc.out _) ?_; rintro e wb ⟨rfl, n5, rfl⟩))
        all_goals
          go_wp2_with fail
          go_meet
          case rel =>
            refine ⟨by simp, ?_⟩
            first
              | exact hBa.out
              | exact below_drewN hBa.out _
      case rest =>
        obtain ⟨rfl, Hbc⟩ := hcut
        rename World => w9
        have Hbel9 : Hid (Below w4.heap.size w4 w9) := Hbel.out.trans (Hbc.out.mono Hbel.out.size)
        clear hc0 hc1 hcs HC HHas HOcc hB0 Hb
        go_wp2
        go_roundg (N - (i + 1))
        case measure => rw [Hg.out]; omega
        case rel => exact ⟨i + 1, by omega, rfl, by go_num, Hbel9⟩
    · have ei : i = N := by omega
      subst ei
      go_wp2
      go_ret
      exact ⟨rfl, HB4.out.trans (Hbel.out.mono HB4.out.size)⟩
end Go.Proofs.Qxb6001318a
