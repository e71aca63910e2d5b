/-
  THE WALK of build.
-/
import Derived.Test.Qxb6001318aZZM
import Derived.Test.Qxb6001318aBuildPlain
namespace Go.Proofs.Qxb6001318a
open Go.RowKit
set_option linter.unusedSimpArgs false
set_option linter.unusedVariables false

/-- What child answers, by the states' texts. -/
def KidPost (T : List ByteArray) (L : List (List UInt8)) (s : Nat) (c : UInt8) (e : Ending) : Prop :=
  (∃ j, j < L.length ∧ Pl.pf L j = Pl.pf L s ++ [c] ∧ e = .returned (.int .i32 (j : Int))) ∨ (¬ Pl.PP T (Pl.pf L s ++ [c]) = true ∧ e = .returned (.int .i32 (-1)))

theorem kid_any {T : List ByteArray} {L : List (List UInt8)} {par : Nat → Nat} {lab : Nat → UInt8} (ht : Pl.Trie T L par lab) (gf gl S s : Nat) (c : UInt8) (w : World) (hL : L.length = S) (hS : S ≤ 1048577) (hs : s < S) (hf : w.rowIs gf 21 (S + 1) (dcell (Pl.fstC par S))) (hl : w.rowIs gl 5 S (bcell lab)) :
    Calls Try.prog 12 #[.slice (some ⟨gf, 0, none⟩) (S + 1) (S + 1), .slice (some ⟨gl, 0, none⟩) S S, .int .i32 (s : Int), .int .u8 (c.toNat : Int)] w fun e w' => KidPost T L s c e ∧ w' = w := by
  subst hL
  have h1 := ht.first_le s
  refine (child_any gf gl (L.length + 1) L.length s _ lab c w (by omega) hS (by omega) hf hl h1.1 h1.2 (fun i j => ht.kids_asc s i j)).mono ?_
  rintro e w' ⟨h, rfl⟩
  refine ⟨?_, rfl⟩
  obtain ⟨k1, k2⟩ := ht.kids hs c
  rcases h with ⟨j, h2, h3, h4, h5⟩ | ⟨h2, h3⟩
  · obtain ⟨g1, g2⟩ := k1 j h2 h3 h4
    exact .inl ⟨j, g1, g2, h5⟩
  · exact .inr ⟨k2 h2, h3⟩

/-- A Matcher's memory. -/
structure MMem (gm gl gf gF gO ge gd S D N : Nat) (lab : Nat → UInt8) (fst F : Nat → Nat) (O : Nat → Int) (Rv : Array Value) (R en Dn : Nat → Nat) (w : World) : Prop where
  rm : w.rowIs gm 49 262 (mcell (.slice (some ⟨gl, 0, none⟩) S S) (.slice (some ⟨gf, 0, none⟩) (S + 1) (S + 1)) (.slice (some ⟨gF, 0, none⟩) S S) (.slice (some ⟨gO, 0, none⟩) S S) Rv (.slice (some ⟨ge, 0, none⟩) D D) (.slice (some ⟨gd, 0, none⟩) N N))
  root : ∀ j, j < 256 → Rv.getD j (.int .i32 0) = .int .i32 (R j : Int)
  rl : w.rowIs gl 5 S (bcell lab)
  rf : w.rowIs gf 21 (S + 1) (dcell fst)
  rF : w.rowIs gF 21 S (dcell F)
  rO : w.rowIs gO 21 S (icell O)
  re : w.rowIs ge 21 D (dcell en)
  rd : w.rowIs gd 21 N (dcell Dn)

/-- What build leaves. -/
def BuildPost (w : World) (Sx : Nat → ByteArray) (N : Nat) (e : Ending) (w' : World) : Prop :=
  ∃ (gm gl gf gF gO ge gd S : Nat) (T : List ByteArray) (L : List (List UInt8)) (par : Nat → Nat) (lab : Nat → UInt8) (F : Nat → Nat) (O : Nat → Int) (Rv : Array Value) (R en Dn : Nat → Nat),
    e = .returned (.pointer (some ⟨gm, 0, none⟩)) ∧ MMem gm gl gf gF gO ge gd S T.length N lab (Pl.fstC par S) F O Rv R en Dn w' ∧ L.length = S ∧ S ≤ 1048577 ∧ T.length ≤ N ∧ Pl.Srt T ∧ Pl.MI T L par lab F O R en ∧
    (∀ i, i < N → ∃ h : Dn i < T.length, T[Dn i] = Sx i) ∧ Below w.heap.size w w'

theorem load47 (w : World) (g : Nat) (c : Array Value) (h : w.heap[g]? = some (.cells c 47)) (hc : c.size = 256) : (Instr.loadAt 47 (.pointer (some ⟨g, 0, none⟩))).run Try.prog w = .ok (.agg c) w := by
  simp only [Instr.loadAt, Instr.sureAddr, Sem.run_bind, Sem.run_pure, Result.andThen]
  exact run_loadVar_row _ _ 47 47 c (0, 0) _ h Try.underlying47 rfl (by rw [hc]; exact info47)

def Z47 : Array Value := Array.replicate 256 (.int .i32 0)
theorem zero47 (w : World) : (zeroValue 47).run Try.prog w = .ok (.agg Z47) w := by kernel_rfl

theorem u8_ofNat {c : Nat} (h : c < 256) : (UInt8.ofNat c).toNat = c := by simp [UInt8.toNat_ofNat']; omega

set_option maxRecDepth 100000 in
set_option maxHeartbeats 1000000 in
theorem build_any (a : Option Addr) (N cap : Nat) (Sx : Nat → ByteArray) (w : World) (hN : N ≤ 65536) (ht : tot Sx N ≤ 1048576) (hS : OwnStrs 0 w a N Sx) :
    Calls Try.prog 15 #[.slice a N cap] w (BuildPost w Sx N) := by
  have HD0 : Hid _ := dist_any a N cap Sx w hN ht hS
  have Htot : Hid _ := ht
  clear hS ht
  go_enter Try.func15, Try.ntmps15
  go_wp2_with fail
  refine Calls.mono HD0.out ?_
  rintro e w1 ⟨gx, gd, T, Dn, rfl, hgx, hgd, hne, hrx, hrd, hb1, hcnt, hsrt, hfrom, hat, hTN⟩
  obtain ⟨D, HDl⟩ : ∃ D, Hid (T.length = D) := ⟨_, rfl⟩
  obtain ⟨S, HSe⟩ : ∃ S, Hid (S = 1 + Pl.cnt [] T) := ⟨_, rfl⟩
  have hS2 : S ≤ 1048577 := by rw [HSe.out]; have := Htot.out; omega
  have hDN : D ≤ N := by rw [← HDl.out]; exact hTN
  have HZ : Hid _ := zzLay_any gx D N S T w1 HDl.out (by omega) hDN (fun i hi => by
    have hi' : i < T.length := by rw [HDl.out]; exact hi
    rw [Pl.getD_of hi']
    obtain ⟨k, hk, e⟩ := hfrom _ (List.getElem_mem hi')
    rw [e]; exact Nat.le_trans (size_le_tot Sx hk) Htot.out) HSe.out hS2 hsrt hrx
  have Hat : Hid (∀ i, i < N → ∃ h : Dn i < T.length, T[Dn i] = Sx i) := hat
  have Hsrt : Hid (Pl.Srt T) := hsrt
  have hsz1 := hb1.size
  have hgd1 := hrd.lt
  rw [HDl.out, ← HSe.out]
  clear HD0 hat hsrt hfrom hTN hcnt hrx hgx
  go_upto_region 2 with fail
  go_wp2_with fail
  refine Calls.mono HZ.out ?_
  rintro e w2 ⟨gl, go, ge, gp, gf, L, par, lab, out, en, rfl, hrl, hrf, hro, hre, hrp, hord, hb2, hLE⟩
  have HLE : Hid _ := hLE
  have HTr : Hid _ := hLE.trie
  have HLl : Hid (L.length = S) := by show _ = _; rw [hLE.len, HSe.out]
  have hrd2 : w2.rowIs gd 21 N (dcell Dn) := hrd.of_block (hb2.block gd hgd1)
  have hb3 : Below w.heap.size w w2 := hb1.trans (hb2.mono hsz1)
  have hmk := run_make_row' (P := Try.prog) 26 21 (.int .i32 0) 4 Try.underlying26 info21 rfl .i64 .i64 S (by omega) (by omega)
  have HRows : Hid (w2.rowIs gl 5 S (bcell lab) ∧ w2.rowIs gf 21 (S + 1) (dcell (Pl.fstC par S)) ∧ w2.rowIs go 21 S (icell out) ∧ w2.rowIs ge 21 D (dcell en) ∧ w2.rowIs gp 21 S (qcell par) ∧ w2.rowIs gd 21 N (dcell Dn)) := ⟨hrl, hrf, hro, hre, hrp, hrd2⟩
  have hs2 : gp < w2.heap.size := hrp.lt
  have hs3 : gf < w2.heap.size := hrf.lt
  have hS1 : 1 ≤ S := by rw [HSe.out]; omega
  clear HZ hLE hrl hrf hro hre hrp hrd hrd2 hb1 hb2 hne
  go_upto_region 4 with fail
  obtain ⟨w3, gF, Hw3⟩ : ∃ (w3 : World) (gF : Nat), Hid (w3 = w2.alloc (.cells (madeCells #[.int .i32 0] S) 21) ∧ gF = w2.heap.size) := ⟨_, _, rfl, rfl⟩
  rw [← Hw3.out.1, ← Hw3.out.2]
  have HR3 : Hid (w3.rowIs gl 5 S (bcell lab) ∧ w3.rowIs gf 21 (S + 1) (dcell (Pl.fstC par S)) ∧ w3.rowIs go 21 S (icell out) ∧ w3.rowIs ge 21 D (dcell en) ∧ w3.rowIs gp 21 S (qcell par) ∧ w3.rowIs gd 21 N (dcell Dn)) := by
    obtain ⟨h1, h2, h3, h4, h5, h6⟩ := HRows.out
    show _ ∧ _
    rw [Hw3.out.1]
    exact ⟨h1.alloc _, h2.alloc _, h3.alloc _, h4.alloc _, h5.alloc _, h6.alloc _⟩
  have hrF : w3.rowIs gF 21 S (dcell fun _ => 0) := by rw [Hw3.out.1, Hw3.out.2]; exact World.rowIs_made w2 _ S 21
  have hbel3 : Below w.heap.size w w3 := by rw [Hw3.out.1]; exact hb3.alloc hb3.size _
  have Hne : Hid (gl ≠ gF ∧ gf ≠ gF ∧ go ≠ gF ∧ ge ≠ gF ∧ gp ≠ gF ∧ gd ≠ gF ∧ w.heap.size ≤ gF) := by
    obtain ⟨o1, o2, o3, o4, o5⟩ := hord
    have := HRows.out.2.2.2.2.2.lt
    have := hb3.size
    show _ ∧ _
    rw [Hw3.out.2]
    omega
  clear Hw3 HRows hb3 hs2 hs3
  go_upto_region 5 with fail
  go_wp2_with fail
  go_loopg [12] S (fun g v12 wk => ∃ (s : Nat) (F : Nat → Nat), s + 1 ≤ S ∧ Hid (g = S - s) ∧ v12 = .int .i64 ((s : Int) + 1) ∧ wk.rowIs gF 21 S (dcell F) ∧ Only gF w3 wk ∧ Hid (Pl.FailOK T L F (s + 1)) ∧ Hid (∀ t, s + 1 ≤ t → F t = 0))
  case atStart => exact ⟨0, fun _ => 0, by omega, rfl, rfl, hrF, ⟨rfl, rfl, rfl, rfl, fun _ _ => rfl⟩, Pl.FailOK.start HTr.out _ rfl, fun _ _ => rfl⟩
  case round =>
    clear hrF
    obtain ⟨s', F, hs, Hg, rfl, hrF, hoF, HF, HF0⟩ := hrel
    obtain ⟨s, Hs'⟩ : ∃ s, Hid (s = s' + 1) := ⟨_, rfl⟩
    have es : ((s' : Int) + 1) = (s : Int) := by rw [Hs'.out]; omega
    rw [es]
    rw [← Hs'.out] at HF HF0
    have hs0 : 0 < s := by rw [Hs'.out]; omega
    have hsS : s ≤ S := by rw [Hs'.out]; exact hs
    clear es
    by_cases hlt : s < S
    · have HP : Hid _ := HTr.out.par s hs0 (by rw [HLl.out]; exact hlt)
      obtain ⟨p, Hp⟩ : ∃ p, Hid (par s = p) := ⟨_, rfl⟩
      have hcp : wr.cell? ⟨gp, s, none⟩ = some (.int .i32 (p : Int)) := by
        rw [(hoF.row Hne.out.2.2.2.2.1 HR3.out.2.2.2.2.1).cell hlt]
        unfold qcell
        rw [if_neg (by omega), Hp.out]
      have hps : p < s := by rw [← Hp.out]; exact HP.out.1
      by_cases hp0 : p = 0
      · have HX : Hid (Pl.flink (Pl.PP T) (Pl.pf L s) = []) := HTr.out.flink_top hs0 (by rw [HLl.out]; exact hlt) (by rw [Hp.out]; exact hp0)
        subst hp0
        go_wp2
        go_roundg (S - s)
        case measure => rw [Hg.out]; have := Hs'.out; omega
        case rel =>
          refine ⟨s, F, by omega, rfl, by go_num, hrF, hoF, ?_, ?_⟩
          · intro t ht
            by_cases e : t = s
            · subst e
              rw [HF0.out t (Nat.le_refl _), HX.out, HTr.out.root]
              exact ⟨HTr.out.pos, rfl⟩
            · exact HF.out t (by omega)
          · intro t ht; exact HF0.out t (by omega)
      · have hpS : p < S := by omega
        have HX : Hid _ := HTr.out.flink_of hs0 (by rw [HLl.out]; exact hlt) (by rw [Hp.out]; exact hp0)
        have HFp : Hid _ := HF.out p hps
        obtain ⟨f0, Hf0⟩ : ∃ f0, Hid (F p = f0) := ⟨_, rfl⟩
        obtain ⟨c, Hc⟩ : ∃ c, Hid (lab s = c) := ⟨_, rfl⟩
        have HI0 : Hid (Pl.lsuf (Pl.PP T) (Pl.pf L f0 ++ [c]) = Pl.flink (Pl.PP T) (Pl.pf L s)) := by
          show _ = _
          rw [HX.out, Hp.out, ← HFp.out.2, Hf0.out, Hc.out]
        have hf0s : f0 < s := by
          have := Pl.FailOK.lt HTr.out HF.out hps hp0 (by rw [HLl.out]; exact hpS)
          rw [Hf0.out] at this
          omega
        have hcf : wr.cell? ⟨gF, p, none⟩ = some (.int .i32 (f0 : Int)) := by rw [hrF.cell hpS]; unfold dcell; rw [Hf0.out]
        have hcl : wr.cell? ⟨gl, s, none⟩ = some (.int .u8 (c.toNat : Int)) := by
          rw [(hoF.row Hne.out.1 HR3.out.1).cell hlt]; unfold bcell; rw [Hc.out]
        obtain ⟨wq, hwq⟩ : ∃ wq, wq = wr := ⟨_, rfl⟩
        subst hwq
        have HK : Hid (∀ f, f < s → Calls Try.prog 12 #[.slice (some ⟨gf, 0, none⟩) (S + 1) (S + 1), .slice (some ⟨gl, 0, none⟩) S S, .int .i32 (f : Int), .int .u8 (c.toNat : Int)] wq fun e w' => KidPost T L f c e ∧ w' = wq) := fun f hf =>
          kid_any HTr.out gf gl S f c wq HLl.out hS2 (by omega) (hoF.row Hne.out.2.1 HR3.out.2.1) (hoF.row Hne.out.1 HR3.out.1)
        obtain ⟨vF, hcF⟩ : ∃ v, wq.cell? ⟨gF, s, none⟩ = some v := ⟨_, hrF.cell hlt⟩
        have hfF := hrF.frozen s
        have hp0' : ((p : Int) == 0) = false := by rw [beq_eq_false_iff_ne]; omega
        clear HX HFp HP
        go_upto_region 12 with fail
        go_wp2_with fail
        go_loopg [15, 16] f0 (fun g2 v15 v16 wk => ∃ (f : Nat), f < s ∧ Hid (g2 = f) ∧ v15 = .int .i32 (f : Int) ∧ v16 = .int .i32 0 ∧ Hid (Pl.lsuf (Pl.PP T) (Pl.pf L f ++ [c]) = Pl.flink (Pl.PP T) (Pl.pf L s)) ∧ wk = wq)
        case atStart => exact ⟨f0, hf0s, rfl, rfl, rfl, HI0, rfl⟩
        case round =>
          clear HI0 hf0s hcf hcl hcp
          obtain ⟨f, hfs, Hg2, rfl, rfl, HI, rfl⟩ := hrel
          have HK2 : Hid _ := HK.out f hfs
          have hfS : f < S := by omega
          go_upto_region 12 with fail
          go_wp2_with fail
          refine Calls.mono HK2.out ?_
          rintro e w5 ⟨hkp, rfl⟩
          clear HK2
          rcases hkp with ⟨j, hj, hpj, rfl⟩ | ⟨hno, rfl⟩
          · have HJ : Hid (Pl.pf L j = Pl.flink (Pl.PP T) (Pl.pf L s)) := by
              show _ = _
              rw [HTr.out.hit hj hpj]; exact HI.out
            have HJl : Hid _ := hj
            have hjS : j < S := by rw [← HLl.out]; exact hj
            clear hpj hj
            go_wp2
            go_roundg (S - s)
            case measure => rw [Hg.out]; have := Hs'.out; omega
            case rel =>
              refine ⟨s, _, by omega, rfl, by go_num, dcell_set (d := j) hrF rfl, hoF.trans (only_set _ _ _ _), HF.out.step HJl.out HJ.out, fun t ht => ?_⟩
              have e : t ≠ s := by omega
              simp only [if_neg e]; exact HF0.out t (by omega)
          · by_cases hf0 : f = 0
            · have HJ : Hid (Pl.pf L 0 = Pl.flink (Pl.PP T) (Pl.pf L s)) := by
                show _ = _
                have h := HI.out
                rw [hf0, HTr.out.root] at h
                rw [HTr.out.root, ← h, Pl.next_root c (by rw [hf0, HTr.out.root] at hno; exact hno)]
              have Hno : Hid _ := hno
              clear hno
              subst hf0
              go_wp2
              go_roundg (S - s)
              case measure => rw [Hg.out]; have := Hs'.out; omega
              case rel =>
                refine ⟨s, _, by omega, rfl, by go_num, dcell_set (d := 0) hrF rfl, hoF.trans (only_set _ _ _ _), HF.out.step HTr.out.pos HJ.out, fun t ht => ?_⟩
                have e : t ≠ s := by omega
                simp only [if_neg e]; exact HF0.out t (by omega)
            · obtain ⟨f', Hf'⟩ : ∃ f', Hid (F f = f') := ⟨_, rfl⟩
              have hne : Pl.pf L f ≠ [] := HTr.out.ne_nil hf0 (by rw [HLl.out]; exact hfS)
              have HI2 : Hid (Pl.lsuf (Pl.PP T) (Pl.pf L f' ++ [c]) = Pl.flink (Pl.PP T) (Pl.pf L s)) := by
                show _ = _
                rw [← Hf'.out, (HF.out f hfs).2, ← Pl.next_miss (Pl.PP_nil T) (Pl.pre_PP T) _ _ hne hno]
                exact HI.out
              have hff : f' < f := by
                have := Pl.FailOK.lt HTr.out HF.out hfs hf0 (by rw [HLl.out]; exact hfS)
                rw [Hf'.out] at this
                exact this
              have hcf : w5.cell? ⟨gF, f, none⟩ = some (.int .i32 (f' : Int)) := by rw [hrF.cell hfS]; unfold dcell; rw [Hf'.out]
              have hf0' : ((f : Int) == 0) = false := by rw [beq_eq_false_iff_ne]; omega
              clear hno hne
              go_wp2
              go_roundg f'
              case measure => rw [Hg2.out]; exact hff
              case rel => exact ⟨f', by omega, rfl, rfl, rfl, HI2, rfl⟩
    · have es2 : s = S := by omega
      subst es2
      clear HF0 Hg Hs' hs hlt s'
      have HR4 : Hid (wr.rowIs gl 5 s (bcell lab) ∧ wr.rowIs gf 21 (s + 1) (dcell (Pl.fstC par s)) ∧ wr.rowIs go 21 s (icell out) ∧ wr.rowIs ge 21 D (dcell en) ∧ wr.rowIs gF 21 s (dcell F) ∧ wr.rowIs gd 21 N (dcell Dn)) := by
        obtain ⟨h1, h2, h3, h4, h5, h6⟩ := HR3.out
        obtain ⟨n1, n2, n3, n4, n5, n6, n7⟩ := Hne.out
        exact ⟨hoF.row n1 h1, hoF.row n2 h2, hoF.row n3 h3, hoF.row n4 h4, hrF, hoF.row n6 h6⟩
      have hbel4 : Below w.heap.size w wr := hbel3.trans (hoF.below Hne.out.2.2.2.2.2.2)
      have hgFl := hrF.lt
      clear HR3 hrF hoF hbel3
      go_upto_region 19 with fail
      obtain ⟨w5, gO, Hw5⟩ : ∃ (w5 : World) (gO : Nat), Hid (w5 = wr.alloc (.cells (madeCells #[.int .i32 0] s) 21) ∧ gO = wr.heap.size) := ⟨_, _, rfl, rfl⟩
      rw [← Hw5.out.1, ← Hw5.out.2]
      have HR5 : Hid (w5.rowIs gl 5 s (bcell lab) ∧ w5.rowIs gf 21 (s + 1) (dcell (Pl.fstC par s)) ∧ w5.rowIs go 21 s (icell out) ∧ w5.rowIs ge 21 D (dcell en) ∧ w5.rowIs gF 21 s (dcell F) ∧ w5.rowIs gd 21 N (dcell Dn)) := by
        obtain ⟨h1, h2, h3, h4, h5, h6⟩ := HR4.out
        show _ ∧ _
        rw [Hw5.out.1]
        exact ⟨h1.alloc _, h2.alloc _, h3.alloc _, h4.alloc _, h5.alloc _, h6.alloc _⟩
      have hrO : w5.rowIs gO 21 s (icell fun j => if j < 0 then out j else 0) := by
        rw [Hw5.out.1, Hw5.out.2]; exact (World.rowIs_made wr _ s 21).congr fun j _ => by unfold icell; simp
      have hbel5 : Below w.heap.size w w5 := by rw [Hw5.out.1]; exact hbel4.alloc hbel4.size _
      have Hne5 : Hid (gl ≠ gO ∧ gf ≠ gO ∧ go ≠ gO ∧ ge ≠ gO ∧ gF ≠ gO ∧ gd ≠ gO ∧ w.heap.size ≤ gO) := by
        obtain ⟨h1, h2, h3, h4, h5, h6⟩ := HR4.out
        have k1 := h1.lt
        have k2 := h2.lt
        have k3 := h3.lt
        have k4 := h4.lt
        have k5 := h5.lt
        have k6 := h6.lt
        have := hbel4.size
        show _ ∧ _
        rw [Hw5.out.2]
        omega
      clear Hw5 HR4 hbel4 hgFl Hne hmk
      go_upto_region 20 with fail
      go_wp2_with fail
      go_loopg [19] s (fun g v19 wk => ∃ (k : Nat), k ≤ s ∧ Hid (g = s - k) ∧ v19 = .int .i64 (k : Int) ∧ wk.rowIs gO 21 s (icell fun j => if j < k then out j else 0) ∧ Only gO w5 wk)
      case atStart => exact ⟨0, Nat.zero_le _, rfl, rfl, hrO, ⟨rfl, rfl, rfl, rfl, fun _ _ => rfl⟩⟩
      case round =>
        clear hrO
        obtain ⟨k, hk, Hg, rfl, hrO, hoO⟩ := hrel
        by_cases hlt : k < s
        · have hco : wr.cell? ⟨go, k, none⟩ = some (.int .i32 (out k)) := (hoO.row Hne5.out.2.2.1 HR5.out.2.2.1).cell hlt
          obtain ⟨vo, hcO⟩ : ∃ v, wr.cell? ⟨gO, k, none⟩ = some v := ⟨_, hrO.cell hlt⟩
          have hfO := hrO.frozen k
          go_wp2
          go_roundg (s - (k + 1))
          case measure => rw [Hg.out]; omega
          case rel =>
            refine ⟨k + 1, by omega, rfl, by go_num, (hrO.set k _).congr fun j _ => ?_, hoO.trans (only_set _ _ _ _)⟩
            rw [icell_upd]
            unfold icell
            congr 1
            by_cases e : j = k
            · subst e; simp
            · by_cases e2 : j < k
              · have : j < k + 1 := by omega
                simp [e, e2, this]
              · have : ¬ j < k + 1 := by omega
                simp [e, e2, this]
        · have ek : s = k := by omega
          subst ek
          have hrO1 : wr.rowIs gO 21 s (icell out) := hrO.congr fun j hj => by unfold icell; simp [hj]
          clear hrO hk Hg hlt
          go_upto_region 24 with fail
          go_wp2_with fail
          go_loopg [20] s (fun g v20 wk => ∃ (t : Nat) (O : Nat → Int), t + 1 ≤ s ∧ Hid (g = s - t) ∧ v20 = .int .i64 ((t : Int) + 1) ∧ wk.rowIs gO 21 s (icell O) ∧ Only gO w5 wk ∧ Hid (Pl.OutOK T L out O (t + 1)))
          case atStart => exact ⟨0, out, by omega, rfl, rfl, hrO1, hoO, Pl.OutOK.start HTr.out HLE.out.out⟩
          case round =>
            clear hrO1 hoO
            obtain ⟨t', O, ht', Hg, rfl, hrO, hoO, HO⟩ := hrel
            obtain ⟨t, Ht⟩ : ∃ t, Hid (t = t' + 1) := ⟨_, rfl⟩
            have es : ((t' : Int) + 1) = (t : Int) := by rw [Ht.out]; omega
            rw [es]
            rw [← Ht.out] at HO
            have ht0 : 0 < t := by rw [Ht.out]; omega
            have htS : t ≤ s := by rw [Ht.out]; exact ht'
            clear es
            by_cases hlt : t < s
            · have HOt : Hid _ := HLE.out.out t (by rw [HLl.out]; exact hlt)
              have HOr : Hid (O t = out t) := HO.out.raw t (Nat.le_refl _)
              have hcO : wr.cell? ⟨gO, t, none⟩ = some (.int .i32 (O t)) := hrO.cell hlt
              rcases HOt.out with ⟨i, h1, h2, h3⟩ | ⟨h3, h2⟩
              · rw [HOr.out, h3] at hcO
                have HO2 : Hid (Pl.OutOK T L out O (t + 1)) := HO.out.own h1 h2 (by rw [HOr.out, h3])
                have hi0 : decide ((i : Int) < 0) = false := by rw [decide_eq_false_iff_not]; omega
                clear h1 h2 h3
                go_wp2
                go_roundg (s - t)
                case measure => rw [Hg.out]; have := Ht.out; omega
                case rel => exact ⟨t, O, by omega, rfl, by go_num, hrO, hoO, HO2⟩
              · rw [HOr.out, h3] at hcO
                have hFl : F t < t := Pl.FailOK.lt HTr.out HF.out hlt (by omega) (by rw [HLl.out]; exact hlt)
                have HO2 : Hid (Pl.OutOK T L out (fun i => if i = t then O (F t) else O i) (t + 1)) := HO.out.link h2 hFl (HF.out t hlt).2
                have hcF : wr.cell? ⟨gF, t, none⟩ = some (.int .i32 (F t : Int)) := (hoO.row Hne5.out.2.2.2.2.1 HR5.out.2.2.2.2.1).cell hlt
                have hcO2 : wr.cell? ⟨gO, F t, none⟩ = some (.int .i32 (O (F t))) := hrO.cell (by omega)
                have hfO := hrO.frozen t
                generalize F t = ft at hFl HO2 hcF hcO2
                clear h2 h3
                go_wp2
                go_roundg (s - t)
                case measure => rw [Hg.out]; have := Ht.out; omega
                case rel => exact ⟨t, _, by omega, rfl, by go_num, (hrO.set t _).congr fun j _ => icell_upd _ _ _ j, hoO.trans (only_set _ _ _ _), HO2⟩
            · have et : t = s := by omega
              subst et
              clear Hg Ht ht' hlt t'
              have HOf : Hid (∀ u, u < L.length → ∃ o, Pl.IsOut T (Pl.pf L u) o ∧ O u = Pl.oi o) := fun u hu => HO.out.fin u (by rw [← HLl.out]; exact hu)
              have HR6 : Hid (wr.rowIs gl 5 t (bcell lab) ∧ wr.rowIs gf 21 (t + 1) (dcell (Pl.fstC par t)) ∧ wr.rowIs gO 21 t (icell O) ∧ wr.rowIs ge 21 D (dcell en) ∧ wr.rowIs gF 21 t (dcell F) ∧ wr.rowIs gd 21 N (dcell Dn)) := by
                obtain ⟨h1, h2, h3, h4, h5, h6⟩ := HR5.out
                obtain ⟨n1, n2, n3, n4, n5, n6, n7⟩ := Hne5.out
                exact ⟨hoO.row n1 h1, hoO.row n2 h2, hrO, hoO.row n4 h4, hoO.row n5 h5, hoO.row n6 h6⟩
              have hbel6 : Below w.heap.size w wr := hbel5.trans (hoO.below Hne5.out.2.2.2.2.2.2)
              have hz47 := zero47
              have hz1 : ¬ Z47 = #[] := by intro e; have := congrArg Array.size e; simp [Z47] at this
              clear HR5 hrO hoO hbel5 Hne5 HO
              go_upto_region 29 with fail
              obtain ⟨w7, gR, Hw7⟩ : ∃ (w7 : World) (gR : Nat), Hid (w7 = wr.alloc (.cells Z47 47) ∧ gR = wr.heap.size) := ⟨_, _, rfl, rfl⟩
              rw [← Hw7.out.1, ← Hw7.out.2]
              have HR7 : Hid (w7.rowIs gl 5 t (bcell lab) ∧ w7.rowIs gf 21 (t + 1) (dcell (Pl.fstC par t)) ∧ w7.rowIs gO 21 t (icell O) ∧ w7.rowIs ge 21 D (dcell en) ∧ w7.rowIs gF 21 t (dcell F) ∧ w7.rowIs gd 21 N (dcell Dn)) := by
                obtain ⟨h1, h2, h3, h4, h5, h6⟩ := HR6.out
                show _ ∧ _
                rw [Hw7.out.1]
                exact ⟨h1.alloc _, h2.alloc _, h3.alloc _, h4.alloc _, h5.alloc _, h6.alloc _⟩
              have hrR : w7.rowIs gR 47 256 (dcell fun _ => 0) := by
                rw [Hw7.out.1, Hw7.out.2]
                have h := World.rowIs_alloc wr Z47 47 (dcell fun _ => 0) (fun i hi => by
                  unfold Z47 at hi ⊢
                  simp at hi
                  simp [hi, dcell])
                have e : Z47.size = 256 := by simp [Z47]
                rw [e] at h
                exact h
              have hbel7 : Below w.heap.size w w7 := by rw [Hw7.out.1]; exact hbel6.alloc hbel6.size _
              have Hne7 : Hid (gl ≠ gR ∧ gf ≠ gR ∧ gO ≠ gR ∧ ge ≠ gR ∧ gF ≠ gR ∧ gd ≠ gR ∧ w.heap.size ≤ gR) := by
                obtain ⟨h1, h2, h3, h4, h5, h6⟩ := HR6.out
                have k1 := h1.lt
                have k2 := h2.lt
                have k3 := h3.lt
                have k4 := h4.lt
                have k5 := h5.lt
                have k6 := h6.lt
                have := hbel6.size
                show _ ∧ _
                rw [Hw7.out.2]
                omega
              clear Hw7 HR6 hbel6 hz47 hz1
              go_upto_region 30 with fail
              go_wp2_with fail
              go_loopg [22] 256 (fun g v22 wk => ∃ (c : Nat) (R : Nat → Nat), c ≤ 256 ∧ Hid (g = 256 - c) ∧ v22 = .int .i64 (c : Int) ∧ wk.rowIs gR 47 256 (dcell R) ∧ Only gR w7 wk ∧ Hid (Pl.RootOK T L R c) ∧ Hid (∀ j, c ≤ j → R j = 0))
              case atStart => exact ⟨0, fun _ => 0, by omega, rfl, rfl, hrR, ⟨rfl, rfl, rfl, rfl, fun _ _ => rfl⟩, fun d hd => by omega, fun _ _ => rfl⟩
              case round =>
                clear hrR
                obtain ⟨c, R, hc, Hg, rfl, hrR, hoR, HRo, HR0⟩ := hrel
                by_cases hlt : c < 256
                · have Hc8 : Hid ((UInt8.ofNat c).toNat = c) := u8_ofNat hlt
                  have hK := kid_any HTr.out gf gl t 0 (UInt8.ofNat c) wr HLl.out hS2 hs0 (hoR.row Hne7.out.2.1 HR7.out.2.1) (hoR.row Hne7.out.1 HR7.out.1)
                  rw [Hc8.out] at hK
                  have HK : Hid (Calls Try.prog 12 #[.slice (some ⟨gf, 0, none⟩) (t + 1) (t + 1), .slice (some ⟨gl, 0, none⟩) t t, .int .i32 0, .int .u8 (c : Int)] wr fun e w' => KidPost T L 0 (UInt8.ofNat c) e ∧ w' = wr) := hK
                  obtain ⟨vR, hcR⟩ : ∃ v, wr.cell? ⟨gR, c, none⟩ = some v := ⟨_, hrR.cell hlt⟩
                  have hfR := hrR.frozen c
                  clear hK
                  go_upto_region 32 with fail
                  go_wp2_with fail
                  refine Calls.mono HK.out ?_
                  rintro e w8 ⟨hkp, rfl⟩
                  clear HK
                  rcases hkp with ⟨j, hj, hpj, rfl⟩ | ⟨hno, rfl⟩
                  · have HJ : Hid (Pl.RootOK T L (fun i => if i = c then j else R i) (c + 1)) := by
                      have h1 := HRo.out
                      rw [← Hc8.out] at h1
                      have h2 := Pl.RootOK.step (c := UInt8.ofNat c) h1 hj (by rw [HTr.out.hit hj hpj, HTr.out.root])
                      rw [Hc8.out] at h2
                      exact h2
                    have hjS : j < t := by rw [← HLl.out]; exact hj
                    clear hpj hj
                    go_wp2
                    go_roundg (256 - (c + 1))
                    case measure => rw [Hg.out]; omega
                    case rel =>
                      refine ⟨c + 1, _, by omega, rfl, by go_num, (hrR.set c _).congr fun i _ => dcell_upd R c j i, hoR.trans (only_set _ _ _ _), HJ, fun i hi => ?_⟩
                      have e : i ≠ c := by omega
                      simp only [if_neg e]; exact HR0.out i (by omega)
                  · have HJ : Hid (Pl.RootOK T L R (c + 1)) := by
                      intro d hd
                      by_cases e : d.toNat = c
                      · rw [HR0.out d.toNat (by omega), HTr.out.root]
                        refine ⟨HTr.out.pos, ?_⟩
                        have ed : d = UInt8.ofNat c := UInt8.toNat_inj.1 (by rw [Hc8.out]; exact e)
                        rw [HTr.out.root] at hno
                        rw [ed, Pl.next_root _ hno]
                      · exact HRo.out d (by omega)
                    clear hno
                    go_wp2
                    go_roundg (256 - (c + 1))
                    case measure => rw [Hg.out]; omega
                    case rel => exact ⟨c + 1, R, by omega, rfl, by go_num, hrR, hoR, HJ, fun i hi => HR0.out i (by omega)⟩
                · have ec : c = 256 := by omega
                  subst ec
                  obtain ⟨Rv, hb1, hb2, hb3⟩ := hrR
                  have HRv : Hid (∀ j, j < 256 → Rv.getD j (.int .i32 0) = .int .i32 (R j : Int)) := by
                    intro j hj
                    rw [Array.getD_eq_getD_getElem?, hb3 j hj]; rfl
                  have HLd : Hid _ := load47 wr gR Rv hb1 hb2
                  have HM : Hid _ := zzMatcher_any (some ⟨gl, 0, none⟩) (some ⟨gf, 0, none⟩) (some ⟨gF, 0, none⟩) (some ⟨gO, 0, none⟩) (some ⟨ge, 0, none⟩) (some ⟨gd, 0, none⟩) t (t + 1) t t D N t (t + 1) t t D N Rv wr hb2
                  have HMI : Hid (Pl.MI T L par lab F O R en) := ⟨HTr.out, (by rw [HLl.out]; exact HF.out), HOf.out, HRo.out, HLE.out.en⟩
                  have HR8 : Hid (wr.rowIs gl 5 t (bcell lab) ∧ wr.rowIs gf 21 (t + 1) (dcell (Pl.fstC par t)) ∧ wr.rowIs gO 21 t (icell O) ∧ wr.rowIs ge 21 D (dcell en) ∧ wr.rowIs gF 21 t (dcell F) ∧ wr.rowIs gd 21 N (dcell Dn)) := by
                    obtain ⟨h1, h2, h3, h4, h5, h6⟩ := HR7.out
                    obtain ⟨n1, n2, n3, n4, n5, n6, n7⟩ := Hne7.out
                    exact ⟨hoR.row n1 h1, hoR.row n2 h2, hoR.row n3 h3, hoR.row n4 h4, hoR.row n5 h5, hoR.row n6 h6⟩
                  have hbel8 : Below w.heap.size w wr := hbel7.trans (hoR.below Hne7.out.2.2.2.2.2.2)
                  clear hb1 hb2 hb3 HR7 hoR hbel7 Hne7 HRo HR0 Hg hlt hc
                  go_upto_region 35 with fail
                  go_wp2_with fail
                  refine wp_val _ rfl HLd.out ?_
                  go_wp2_with fail
                  refine Calls.mono HM.out ?_
                  rintro e w9 ⟨gm, rfl, hgm, hrm, hb9⟩
                  clear HM HLd
                  have HR9 : Hid (MMem gm gl gf gF gO ge gd t D N lab (Pl.fstC par t) F O Rv R en Dn w9) := by
                    obtain ⟨h1, h2, h3, h4, h5, h6⟩ := HR8.out
                    exact ⟨hrm, HRv.out, h1.of_block (hb9.block _ h1.lt), h2.of_block (hb9.block _ h2.lt), h5.of_block (hb9.block _ h5.lt), h3.of_block (hb9.block _ h3.lt), h4.of_block (hb9.block _ h4.lt), h6.of_block (hb9.block _ h6.lt)⟩
                  have hbel9 : Below w.heap.size w w9 := hbel8.trans (hb9.mono hbel8.size)
                  clear HR8 hbel8 hrm hb9
                  go_wp2
                  go_ret
                  refine ⟨gm, gl, gf, gF, gO, ge, gd, t, T, L, par, lab, F, O, Rv, R, en, Dn, rfl, ?_, HLl.out, hS2, ?_, Hsrt.out, HMI.out, Hat.out, hbel9⟩
                  · rw [HDl.out]; exact HR9.out
                  · rw [HDl.out]; exact hDN
end Go.Proofs.Qxb6001318a
