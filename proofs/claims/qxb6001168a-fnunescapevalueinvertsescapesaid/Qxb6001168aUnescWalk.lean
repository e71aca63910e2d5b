/-
  THE WALK of unescapeValue (and ZZUnescapeValue) at an escaped text. What is called of the library comes in as hypotheses (paid in the last text, off the shelf).
-/
import Derived.Test.Qxb6001168aEscWalk
import Derived.BigCall
import Derived.Lib.Builder
import Derived.Lib.Bytealg
namespace Go.Proofs.Qxb6001168a
open Go.RowKit

/-- (*strings.Builder).WriteByte, as the shelf says it. -/
def SaidWriteByte : Prop := ∀ (B b : Nat) (bs : List Value) (c : Int) (w : World), Lib.IsBuilder 31 5 B b bs w → bs.length + 1 ≤ 140737488355328 → B ≤ w.heap.size →
    Calls Try.prog 13 #[.pointer (some ⟨b, 0, none⟩), .int .u8 c] w fun e w' => e = .returned .nilIface ∧ (Lib.BuilderAt 31 5 B b (.pointer (some ⟨b, 0, none⟩)) (bs ++ [.int .u8 c]) w' ∧ Below B w w')
/-- (*strings.Builder).String, as the shelf says it. -/
def SaidString : Prop := ∀ (B b : Nat) (l : List UInt8) (w : World), Lib.IsBuilder 31 5 B b (Lib.byteCells l) w → B ≤ w.heap.size →
    Calls Try.prog 14 #[.pointer (some ⟨b, 0, none⟩)] w fun e w' => e = .returned (.string ⟨l.toArray⟩) ∧ Below B w w'
/-- strings.IndexByte, as the shelf says it. -/
def SaidIndexByte : Prop := ∀ (s : ByteArray) (c : Int) (w : World),
    Calls Try.prog 12 #[.string s, .int .u8 c] w fun e w' => e = .returned (.int .i64 (Lib.indexByte s.data.toList c.toNat.toUInt8)) ∧ w' = w

/-- IndexByte of a special byte in the three special bytes: found. -/
theorem index_special (c : UInt8) (h : Esc.special c = true) : 0 ≤ Lib.indexByte [92, 44, 61] c := by
  have h3 : c = 92 ∨ c = 44 ∨ c = 61 := by simpa [Esc.special, or_assoc] using h
  rcases h3 with rfl | rfl | rfl <;> decide

theorem index_special' (hIB : SaidIndexByte) (c : UInt8) (h : Esc.special c = true) (w : World) :
    Calls Try.prog 12 #[.string ⟨#[92, 44, 61]⟩, .int .u8 (c.toNat : Int)] w fun e w' => (∃ n : Int, 0 ≤ n ∧ e = .returned (.int .i64 n)) ∧ w' = w := by
  refine (hIB _ _ _).mono ?_
  rintro e w' ⟨rfl, rfl⟩
  refine ⟨⟨_, ?_, rfl⟩, rfl⟩
  have := index_special c h
  simpa using this

theorem getElem_of_some (s : ByteArray) (e : List UInt8) (hs : s.data.toList = e) (i : Nat) (c : UInt8) (h : e[i]? = some c) (hi : i < s.size) : s[i] = c := by
  subst hs
  rw [List.getElem?_eq_getElem (by simpa using hi)] at h
  exact Option.some.inj h

set_option maxHeartbeats 400000 in
theorem unescape_esc (hWB : SaidWriteByte) (hST : SaidString) (hIB : SaidIndexByte) (l : List UInt8) (s : ByteArray) (w : World) (hl : l.length ≤ 65536) (HE : Hid (s.data.toList = Esc.esc l)) :
    Calls Try.prog 11 #[.string s] w fun e w' => e = .returned (.tuple #[.string ⟨l.toArray⟩, .bool true]) ∧ Below w.heap.size w w' := by
  have hsz : s.size ≤ 131072 := by
    have h1 := congrArg List.length HE.out
    have h2 := (Esc.esc_length l).2
    simp at h1
    omega
  have HZ : Hid (s.size = (Esc.esc l).length) := by
    have h1 := congrArg List.length HE.out
    show _ = _
    simpa using h1
  go_enter Try.func11, Try.ntmps11
  go_wp2
  go_loopw [5] (fun i wr => ∃ k q : Nat, k ≤ l.length ∧ i = .int .i64 (q : Int) ∧ Hid (q = (Esc.esc (l.take k)).length) ∧ q ≤ s.size ∧ Lib.IsBuilder 31 5 w.heap.size w.heap.size (Lib.byteCells (l.take k)) wr ∧ Below w.heap.size w wr)
    (fun i _ => s.size - (intOf i).toNat)
  case atStart =>
    exact ⟨0, 0, Nat.zero_le _, rfl, rfl, Nat.zero_le _, Lib.fresh_isBuilder 31 5 w, (Below.refl _ _).alloc (Nat.le_refl _) _⟩
  case round =>
    obtain ⟨k, q, hk, rfl, HQ, hle, hI, hbel⟩ := hrel
    have hBs := hbel.size
    have htl : (l.take k).length ≤ k := List.length_take_le _ _
    have hbl : (Lib.byteCells (l.take k)).length ≤ 65536 := by rw [Lib.byteCells_length]; omega
    by_cases hlt : k < l.length
    · have HN : Hid (Lib.byteCells (l.take (k + 1)) = Lib.byteCells (l.take k) ++ [.int .u8 (l[k].toNat : Int)]) := by
        show _ = _
        rw [Esc.take_snoc l k hlt, Lib.byteCells_append]; rfl
      by_cases hsp : Esc.special l[k] = true
      · obtain ⟨g1, g2, g3, g4⟩ := Esc.esc_at_special l k hlt hsp
        rw [← HZ.out, ← HQ.out] at g1
        rw [← HQ.out] at g2 g3
        have hq1 : q + 1 < s.size := g1
        have hq0 : q < s.size := by omega
        have HK : s[q] = 92 := (getElem_of_some s _ HE.out _ _ g2 hq0)
        have HK2 : s[q + 1] = l[k] := (getElem_of_some s _ HE.out _ _ g3 hq1)
        have HG : Hid (q + 2 = (Esc.esc (l.take (k + 1))).length) := by
          show _ = _
          rw [g4, HQ.out]
        clear g1 g2 g3 g4
        have hix := index_special' hIB l[k] hsp
        have Hix : Hid (∀ w : World, Calls Try.prog 12 #[.string ⟨#[92, 44, 61]⟩, .int .u8 (l[k].toNat : Int)] w fun e w' => (∃ n : Int, 0 ≤ n ∧ e = .returned (.int .i64 n)) ∧ w' = w) := hix
        clear hix
        have hne : ((q : Int) + 1 == (s.size : Int)) = false := by rw [beq_eq_false_iff_ne]; omega
        go_wp2_with fail
        refine (Hix.out _).mono ?_
        rintro e w' ⟨⟨n, hn, rfl⟩, rfl⟩
        have hn0 : decide (n < 0) = false := by simp; omega
        go_wp2_with fail
        refine (hWB _ _ _ _ _ hI (by omega) (by omega)).mono ?_
        rintro e w1 ⟨rfl, h1, b1⟩
        go_wp2
        go_roundw
        case rel =>
          refine ⟨k + 1, q + 2, by omega, by go_num, HG, by omega, ?_, hbel.trans b1⟩
          rw [HN.out]; exact Or.inr h1
        case measure => simp [intOf]; omega
      · have hsp' : Esc.special l[k] = false := by simpa using hsp
        obtain ⟨g1, g2, g4⟩ := Esc.esc_at_plain l k hlt hsp'
        rw [← HZ.out, ← HQ.out] at g1
        rw [← HQ.out] at g2
        have hq0 : q < s.size := g1
        have HK : s[q] = l[k] := (getElem_of_some s _ HE.out _ _ g2 hq0)
        have HG : Hid (q + 1 = (Esc.esc (l.take (k + 1))).length) := by
          show _ = _
          rw [g4, HQ.out]
        have h3 : ((l[k].toNat : Int) == 92) = false ∧ ((l[k].toNat : Int) == 61) = false := by
          have := mt (Esc.special_iff _).2 hsp
          simp only [beq_eq_false_iff_ne, ne_eq]
          omega
        obtain ⟨h3, h4⟩ := h3
        clear g1 g2 g4 hsp hsp'
        go_wp2_with fail
        refine (hWB _ _ _ _ _ hI (by omega) (by omega)).mono ?_
        rintro e w1 ⟨rfl, h1, b1⟩
        go_wp2
        go_roundw
        case rel =>
          refine ⟨k + 1, q + 1, by omega, by go_num, HG, by omega, ?_, hbel.trans b1⟩
          rw [HN.out]; exact Or.inr h1
        case measure => simp [intOf]; omega
    · have hall : l.take k = l := List.take_of_length_le (by omega)
      rw [hall] at hI HQ
      have hqs : ¬ q < s.size := by rw [HQ.out, HZ.out]; omega
      clear hall
      go_wp2_with fail
      refine (hST _ _ _ _ hI (by omega)).mono ?_
      rintro e w1 ⟨rfl, b1⟩
      go_wp2
      go_ret2
      exact ⟨rfl, hbel.trans b1⟩

/-- ZZUnescapeValue hands it on. -/
theorem zzUnescape_esc (hWB : SaidWriteByte) (hST : SaidString) (hIB : SaidIndexByte) (l : List UInt8) (s : ByteArray) (w : World) (hl : l.length ≤ 65536) (HE : Hid (s.data.toList = Esc.esc l)) :
    Calls Try.prog 7 #[.string s] w fun e w' => e = .returned (.tuple #[.string ⟨l.toArray⟩, .bool true]) ∧ Below w.heap.size w w' := by
  go_enter Try.func7, Try.ntmps7
  go_wp2_with fail
  refine (unescape_esc hWB hST hIB l s _ hl HE).mono ?_
  rintro e w1 ⟨rfl, b1⟩
  go_wp2
  go_ret2
  exact ⟨rfl, b1⟩

/-- THE LAW's WALK: it returns true. -/
theorem law_walk (hWB : SaidWriteByte) (hST : SaidString) (hIB : SaidIndexByte) (v : ByteArray) (w : World) (w0 : v.size ≤ maxLen) :
    Calls Try.prog 3 #[.string v] w fun e w' => e = .returned (.bool true) ∧ Below w.heap.size w w' := by
  unfold maxLen at w0
  by_cases h1 : v.size ≤ 1048576
  · by_cases h2 : v.size ≤ 65536
    · go_enter Try.func3, Try.ntmps3
      go_wp2_with fail
      refine (zzBytes_yes v _ h1).mono ?_
      rintro e w' ⟨rfl, rfl⟩
      go_wp2_with fail
      refine (zzEscape_any v _ h2).mono ?_
      rintro e w1 ⟨rfl, b1⟩
      go_wp2_with fail
      have HE : Hid ((⟨(Esc.esc v.data.toList).toArray⟩ : ByteArray).data.toList = Esc.esc v.data.toList) := by
        show _ = _
        simp
      refine (zzUnescape_esc hWB hST hIB v.data.toList _ _ (by simpa using h2) HE).mono ?_
      rintro e w2 ⟨rfl, b2⟩
      go_wp2
      go_ret
      refine ⟨?_, b1.trans (b2.mono b1.size)⟩
      simp
    · go_enter Try.func3, Try.ntmps3
      go_wp2_with fail
      refine (zzBytes_yes v _ h1).mono ?_
      rintro e w' ⟨rfl, rfl⟩
      go_wp2
      go_ret
      exact ⟨rfl, Below.refl _ _⟩
  · go_enter Try.func3, Try.ntmps3
    go_wp2_with fail
    refine (zzBytes_no v _ (by omega)).mono ?_
    rintro e w' ⟨rfl, rfl⟩
    go_wp2
    go_ret
    exact ⟨rfl, Below.refl _ _⟩
end Go.Proofs.Qxb6001168a
