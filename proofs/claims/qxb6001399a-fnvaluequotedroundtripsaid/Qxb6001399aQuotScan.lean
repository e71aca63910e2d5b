/-
  THE WALKS of value and ZZScanValue at a quoted string.
-/
import Derived.Test.Qxb6001399aQuotWalk
import Derived.Lib.Builder
import Derived.Deep.RegionHeld3
import Derived.Deep.DrawnRows
namespace Go.Proofs.Qxb6001399a
open Go.RowKit
set_option linter.unusedSimpArgs false
set_option linter.unusedVariables false

/-- (*strings.Builder).WriteByte, as the shelf says it. -/
def SaidWriteByte : Prop := ∀ (B b : Nat) (bs : List Value) (c : Int) (w : World), Lib.IsBuilder 36 5 B b bs w → bs.length + 1 ≤ 140737488355328 → B ≤ w.heap.size →
    Calls Try.prog 17 #[.pointer (some ⟨b, 0, none⟩), .int .u8 c] w fun e w' => e = .returned .nilIface ∧ (Lib.BuilderAt 36 5 B b (.pointer (some ⟨b, 0, none⟩)) (bs ++ [.int .u8 c]) w' ∧ Below B w w')
/-- (*strings.Builder).String, as the shelf says it. -/
def SaidString : Prop := ∀ (B b : Nat) (l : List UInt8) (w : World), Lib.IsBuilder 36 5 B b (Lib.byteCells l) w → B ≤ w.heap.size →
    Calls Try.prog 16 #[.pointer (some ⟨b, 0, none⟩)] w fun e w' => e = .returned (.string ⟨l.toArray⟩) ∧ Below B w w'

/-- A builder stands where all blocks from its base on stand. -/
theorem builder_above {T e : TypeId} {B b : Nat} {bs : List Value} {w w' : World} (h : Lib.IsBuilder T e B b bs w) (hk : ∀ k, B ≤ k → w'.heap[k]? = w.heap[k]?) : Lib.IsBuilder T e B b bs w' := by
  have key : ∀ p, Lib.BuilderAt T e B b p bs w → Lib.BuilderAt T e B b p bs w' := by
    rintro p ⟨hB, v, hb, hown, hne⟩
    refine ⟨hB, v, (hk b hB).trans hb, ⟨hown.1, ?_⟩, hne⟩
    rcases hown.2 with h0 | ⟨g, cap, cur, hv, hg, hgg, rest⟩
    · exact .inl h0
    · exact .inr ⟨g, cap, cur, hv, hg, (hk g hg).trans hgg, rest⟩
  rcases h with h | h
  · exact Or.inl (key _ h)
  · exact Or.inr (key _ h)

theorem builder_set {T e : TypeId} {B b b0 : Nat} {bs : List Value} {w : World} (h : Lib.IsBuilder T e B b bs w) (hb : b0 < B) (n : Nat) (v : Value) : Lib.IsBuilder T e B b bs ((w.drewN n).setCell ⟨b0, 1, none⟩ v) :=
  builder_above h fun k hk => by
    rw [Below.heap_setCell _ _ _ _ (by simp; omega)]
    rfl

theorem builder_drewN {T e : TypeId} {B b : Nat} {bs : List Value} {w : World} (h : Lib.IsBuilder T e B b bs w) (n : Nat) : Lib.IsBuilder T e B b bs (w.drewN n) := builder_above h fun _ _ => rfl

theorem getElem_of_some (s : ByteArray) (e : List UInt8) (hs : s.data.toList = e) (i : Nat) (c : UInt8) (h : e[i]? = some c) : ∃ hi : i < s.size, s[i] = c := by
  subst hs
  have hi := (List.getElem?_eq_some_iff.1 h).1
  refine ⟨by simpa using hi, ?_⟩
  exact (List.getElem?_eq_some_iff.1 h).2

set_option maxHeartbeats 1000000 in
theorem value_quoted (hWB : SaidWriteByte) (hST : SaidString) (b : Nat) (A l Z : List UInt8) (s : ByteArray) (w : World) (HE : Hid (s.data.toList = Quot.full A l Z)) (hs : s.size ≤ 4194304) (hl : l.length ≤ 1048576)
    (hS : ScanAt b s (A.length : Nat) w) :
    Calls Try.prog 12 #[.pointer (some ⟨b, 0, none⟩)] w fun e w' => e = .returned (.string ⟨l.toArray⟩) ∧ ScanAt b s ((A.length + (Quot.qs l).length + 2 : Nat) : Int) w' ∧ Below b w w' := by
  obtain ⟨ho, hc0⟩ := getElem_of_some s _ HE.out _ _ (Quot.full_open A l Z)
  have hcon := consume_yes b s A.length 34 w hS ho hs (by rw [hc0]; rfl)
  have HC : Hid _ := hcon
  clear hcon hc0
  obtain ⟨a1, Ha1⟩ : ∃ a1 : Nat, Hid (a1 = A.length + 1) := ⟨_, rfl⟩
  go_enter Try.func12, Try.ntmps12
  go_wp2_with fail
  refine Calls.mono HC.out ?_
  rintro e w1 ⟨rfl, hS1, b1⟩
  have hlt1 := hS1.lt
  go_wp2
  go_loopw [] (fun wr => ∃ k q : Nat, k ≤ l.length ∧ Hid (q = A.length + 1 + (Quot.qs (l.take k)).length) ∧ ScanAt b s q wr ∧ Lib.IsBuilder 36 5 w1.heap.size w1.heap.size (Lib.byteCells (l.take k)) wr ∧ Below b w wr ∧ w1.heap.size ≤ wr.heap.size) (fun wr => s.size - posOf b wr)
  case atStart =>
    refine ⟨0, A.length + 1, Nat.zero_le _, rfl, ?_, Lib.fresh_isBuilder 36 5 w1, b1.alloc (Nat.le_of_lt hlt1) _, by simp⟩
    exact hS1.below ((Below.refl w1.heap.size w1).alloc (Nat.le_refl _) _) hlt1
  case round =>
    obtain ⟨k, q, hk, Hq, hSr, hI, hbel, hBs⟩ := hrel
    have HP : Hid _ := hSr.posOf
    have h0 := hSr.cell0
    have h1 := hSr.cell1
    have h2 := hSr.free1
    have htl : (l.take k).length ≤ k := List.length_take_le _ _
    have hbl : (Lib.byteCells (l.take k)).length ≤ 1048576 := by rw [Lib.byteCells_length]; omega
    by_cases hlt : k < l.length
    · have HN : Hid (Lib.byteCells (l.take (k + 1)) = Lib.byteCells (l.take k) ++ [.int .u8 (l[k].toNat : Int)]) := by
        show _ = _
        rw [Quot.take_snoc l k hlt, Lib.byteCells_append]; rfl
      by_cases hsp : Quot.special l[k] = true
      · obtain ⟨g1, g2, g3, g4⟩ := Quot.at_special A l Z k hlt hsp
        rw [← Hq.out] at g2 g3
        obtain ⟨hqs, HK⟩ := getElem_of_some s _ HE.out _ _ g2
        obtain ⟨hqs1, HK1⟩ := getElem_of_some s _ HE.out _ _ g3
        have HG : Hid (q + 2 = A.length + 1 + (Quot.qs (l.take (k + 1))).length) := by
          show _ = _
          rw [g4, Hq.out]; omega
        clear g1 g2 g3 g4 hsp
        go_wp2
        go_quiet (fail)
        rename Nat => n1
        go_wp2
        go_quiet (fail)
        rename Nat => n2
        go_wp2
        go_quiet (fail)
        rename Nat => n3
        go_wp2_with fail
        have hI2 := builder_set hI hlt1 (n1 + n2) (.int .i64 ((q : Int) + 1))
        have hS2 : ScanAt b s ((q + 1 : Nat) : Int) ((wr.drewN (n1 + n2)).setCell ⟨b, 1, none⟩ (.int .i64 ((q : Int) + 1))) := (hSr.drewN (n1 + n2)).set ((q + 1 : Nat) : Int)
        have hb2 := below_set (below_drewN hbel (n1 + n2)) (.int .i64 ((q : Int) + 1))
        have hI3 := builder_drewN hI2 n3
        have hS3 := hS2.drewN n3
        have hb3 := below_drewN hb2 n3
        have hz3 : w1.heap.size ≤ (((wr.drewN (n1 + n2)).setCell ⟨b, 1, none⟩ (.int .i64 ((q : Int) + 1))).drewN n3).heap.size := by simpa using hBs
        clear hI2 hS2 hb2 h0 h1 h2
        generalize (((wr.drewN (n1 + n2)).setCell ⟨b, 1, none⟩ (.int .i64 ((q : Int) + 1))).drewN n3) = W3 at *
        have c0 := hS3.cell0
        have c1 : W3.cell? ⟨b, 1, none⟩ = some (.int .i64 ((q : Int) + 1)) := hS3.cell1
        have hq1 : (0 : Int) ≤ (q : Int) + 1 := by omega
        have hq2 : (q : Int) + 1 < (s.size : Int) := by omega
        have hI4 : Lib.IsBuilder 36 5 w1.heap.size w1.heap.size (Lib.byteCells (l.take k)) W3.drew := builder_above hI3 (fun _ _ => rfl)
        go_region_held3 (fun w' => w'.cell? ⟨b, 0, none⟩ = some (.string s) ∧ w'.cell? ⟨b, 1, none⟩ = some (.int .i64 ((q : Int) + 1))) (go_keep) ((go_at_call 17; refine (hWB _ _ _ _ W3.drew hI4 (by omega) (by simpa using hz3)).mono ?_; rintro e w4 ⟨rfl, h5, b5⟩; have c2 := (b5.cell (p := ⟨b, 0, none⟩) hlt1).trans c0; have c3 := (b5.cell (p := ⟨b, 1, none⟩) hlt1).trans c1))
        have hS4 : ScanAt b s ((q + 1 : Nat) : Int) w4 := (b5.block b hlt1).trans hS3
        have f4 := hS4.free1
        have hb4 : Below b w w4 := hb3.drew.trans (b5.mono (Nat.le_of_lt hlt1))
        have hsz4 : w1.heap.size ≤ w4.heap.size := Nat.le_trans hz3 b5.size
        go_wp2
        go_roundw
        case rel =>
          refine ⟨k + 1, q + 2, by omega, HG, ?_, ?_, below_set hb4 _, ?_⟩
          · have := hS4.set ((q + 2 : Nat) : Int)
            exact this
          · rw [HN.out]; exact builder_set (n := 0) (Or.inr h5) hlt1 _
          · simpa using hsz4
        case measure =>
          have e2 : posOf b (w4.setCell ⟨b, 1, none⟩ (.int .i64 ((q : Int) + 1 + 1))) = q + 2 := ScanAt.posOf (hS4.set ((q + 2 : Nat) : Int))
          rw [HP.out, e2]
          omega
      · have hsp' : Quot.special l[k] = false := by simpa using hsp
        obtain ⟨g1, g2, g4⟩ := Quot.at_plain A l Z k hlt hsp'
        rw [← Hq.out] at g2
        obtain ⟨hqs, HK⟩ := getElem_of_some s _ HE.out _ _ g2
        have HG : Hid (q + 1 = A.length + 1 + (Quot.qs (l.take (k + 1))).length) := by
          show _ = _
          rw [g4, Hq.out]; omega
        have h3 : ((l[k].toNat : Int) == 34) = false ∧ ((l[k].toNat : Int) == 92) = false := by
          have := mt (Quot.special_iff _).2 hsp
          simp only [beq_eq_false_iff_ne, ne_eq]
          omega
        obtain ⟨h3, h4⟩ := h3
        clear g1 g2 g4 hsp hsp'
        go_wp2
        go_quiet (fail)
        go_wp2
        go_quiet (fail)
        go_wp2
        go_quiet (fail)
        go_wp2_with fail
        rename_i n1 n2 _ _
        have hI2 := builder_set hI hlt1 (n1 + n2) (.int .i64 ((q : Int) + 1))
        have hS2 := (hSr.drewN (n1 + n2)).set ((q + 1 : Nat) : Int)
        have hb2 := below_set (below_drewN hbel (n1 + n2)) (.int .i64 ((q : Int) + 1))
        refine (hWB _ _ _ _ _ (builder_drewN hI2 nq) (by omega) (by simpa using hBs)).mono ?_
        rintro e w3 ⟨rfl, h5, b5⟩
        have hS3 := (hS2.drewN nq).below b5 hlt1
        have hb3 : Below b w w3 := (below_drewN hb2 nq).trans (b5.mono (Nat.le_of_lt hlt1))
        have HP3 : Hid _ := hS3.posOf
        clear hS2 hb2 hI2
        have hsz3 : w1.heap.size ≤ w3.heap.size := Nat.le_trans (by simpa using hBs) b5.size
        go_wp2
        go_roundw
        case rel =>
          refine ⟨k + 1, q + 1, by omega, HG, hS3, ?_, hb3, hsz3⟩
          rw [HN.out]; exact Or.inr h5
        case measure =>
          rw [HP.out, HP3.out]
          omega
    · have hall : l.take k = l := List.take_of_length_le (by omega)
      rw [hall] at hI Hq
      have g2 := Quot.full_close A l Z
      rw [← Hq.out] at g2
      obtain ⟨hqs, HK⟩ := getElem_of_some s _ HE.out _ _ g2
      have HG : Hid (q + 1 = A.length + (Quot.qs l).length + 2) := by
        show _ = _
        rw [Hq.out]; omega
      clear g2 hall
      go_wp2
      go_quiet (fail)
      rename Nat => n1
      go_wp2
      go_quiet (fail)
      go_wp2_with fail
      have hI2 := builder_set hI hlt1 (n1 + nq) (.int .i64 ((q : Int) + 1))
      have hS2 := (hSr.drewN (n1 + nq)).set ((q + 1 : Nat) : Int)
      have hb2 := below_set (below_drewN hbel (n1 + nq)) (.int .i64 ((q : Int) + 1))
      refine (hST _ _ _ _ hI2 (by simpa using hBs)).mono ?_
      rintro e w3 ⟨rfl, b5⟩
      have hS3 := hS2.below b5 hlt1
      have hb3 : Below b w w3 := hb2.trans (b5.mono (Nat.le_of_lt hlt1))
      clear hS2 hb2 hI2
      go_wp2
      go_ret
      refine ⟨rfl, ?_, hb3⟩
      rw [← HG.out]
      exact hS3

set_option maxHeartbeats 400000 in
theorem scan_quoted (hWB : SaidWriteByte) (hST : SaidString) (A l Z : List UInt8) (s : ByteArray) (pi : Int) (w : World) (HE : Hid (s.data.toList = Quot.full A l Z)) (hs : s.size ≤ 4194304) (hl : l.length ≤ 1048576) (hpi : pi = (A.length : Nat)) :
    Calls Try.prog 8 #[.string s, .int .i64 pi] w fun e w' => e = .returned (.tuple #[.string ⟨l.toArray⟩, .int .i64 ((A.length + (Quot.qs l).length + 2 : Nat) : Int)]) ∧ Below w.heap.size w w' := by
  have hS : ScanAt w.heap.size s pi (w.alloc (.cells #[.string s, .int .i64 pi] 32)) := heap_alloc_new w _
  have hS' : ScanAt w.heap.size s (A.length : Nat) (w.alloc (.cells #[.string s, .int .i64 pi] 32)) := by rw [← hpi]; exact hS
  have HPI : Hid _ := hpi
  clear hS hpi
  go_enter Try.func8, Try.ntmps8
  go_wp2_with fail
  refine (value_quoted hWB hST w.heap.size A l Z s _ HE hs hl hS').mono ?_
  rintro e w2 ⟨rfl, hS2, b2⟩
  have h1 := hS2.cell1
  go_wp2
  go_quiet (fail)
  go_wp2
  go_ret2
  exact ⟨rfl, below_drewN (((Below.refl _ _).alloc (Nat.le_refl _) _).trans b2) _⟩
end Go.Proofs.Qxb6001399a
