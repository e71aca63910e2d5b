/-
  THE WALK of FnValueQuotedRoundTrip.
-/
import Derived.Test.Qxb6001399aQuotScan
namespace Go.Proofs.Qxb6001399a
open Go.RowKit
set_option linter.unusedSimpArgs false
set_option linter.unusedVariables false

theorem zzBytesQ (a b c : ByteArray) (w : World) (h1 : a.size ≤ maxLen) (h2 : b.size ≤ maxLen) (h3 : c.size ≤ maxLen) :
    Calls Try.prog 6 #[.string a, .string b, .string c] w fun e w' => (∃ b, e = .returned (.bool b)) ∧ w' = w := by
  unfold maxLen at h1 h2 h3
  go_enter Try.func6, Try.ntmps6
  go_wp2
  all_goals
    go_ret
    exact ⟨⟨_, rfl⟩, rfl⟩

/-- A row of bytes of a length that is not nothing: the value written out. -/
theorem Row.form {B : Nat} {v : Value} {l : List UInt8} {w : World} (h : Row B v l w) (h0 : l ≠ []) : ∃ a cap, v = .slice a l.length cap := by
  rcases h.2 with ⟨_, h1⟩ | ⟨g, cap, cur, hv, _⟩
  · exact absurd (List.eq_nil_of_length_eq_zero h1) h0
  · exact ⟨_, cap, hv⟩

theorem text_size (pre v rest : ByteArray) : (⟨(pre.data.toList ++ 34 :: (Quot.qs v.data.toList ++ 34 :: rest.data.toList)).toArray⟩ : ByteArray).size = pre.size + (Quot.qs v.data.toList).length + rest.size + 2 := by
  show (pre.data.toList ++ 34 :: (Quot.qs v.data.toList ++ 34 :: rest.data.toList)).toArray.size = pre.data.size + _ + rest.data.size + 2
  simp only [List.size_toArray, List.length_append, List.length_cons, Array.length_toList]
  omega

theorem Row.str {B : Nat} {v : Value} {l : List UInt8} {s : ByteArray} {w : World} (h : w.ownsRow B 5 1 v (l.length + s.size) (Lib.byteCells l ++ Lib.strCells s)) : Row B v (l ++ s.data.toList) w := by
  unfold Row
  rw [List.length_append, Lib.byteCells_append, ← Lib.strCells_eq]
  simpa using h

set_option maxHeartbeats 1000000 in
theorem quoted_law (hWB : SaidWriteByte) (hST : SaidString) (pre v rest : ByteArray) (w : World) (h1 : pre.size ≤ maxLen) (h2 : v.size ≤ maxLen) (h3 : rest.size ≤ maxLen) :
    Calls Try.prog 3 #[.string pre, .string v, .string rest] w fun e w' => e = .returned (.bool true) ∧ Below w.heap.size w w' := by
  have HB := zzBytesQ pre v rest w h1 h2 h3
  have HB' : Hid _ := HB
  clear HB
  unfold maxLen at h1 h2 h3
  obtain ⟨i0, hi, hz0, hz1, hz2⟩ := info_parts info5
  go_enter Try.func3, Try.ntmps3
  go_wp2_with fail
  refine Calls.mono HB'.out ?_
  rintro e w' ⟨⟨b, rfl⟩, rfl⟩
  cases b
  · go_wp2
    go_ret
    exact ⟨rfl, Below.refl _ _⟩
  by_cases hp : pre.size ≤ 262144
  case neg =>
    go_wp2
    go_ret
    exact ⟨rfl, Below.refl _ _⟩
  by_cases hv : v.size ≤ 262144
  case neg =>
    go_wp2
    go_ret
    exact ⟨rfl, Below.refl _ _⟩
  by_cases hr : rest.size ≤ 262144
  case neg =>
    go_wp2
    go_ret
    exact ⟨rfl, Below.refl _ _⟩
  have hql := (Quot.qs_length v.data.toList).2
  have hvl : v.data.toList.length = v.size := by simp
  go_wp2_with (first | (at_make; refine wpList_make_own _ rfl _ _ 23 rfl w'.heap.size 5 i0 (.int .u8 0) 1 Try.underlying23 hi hz0 hz1 .i64 .i64 _ (pre.size + 2 * v.size + 2 + rest.size) rfl rfl (by omega) (by rw [hz2]; omega) (by unfold maxLen; omega) (Nat.le_refl _) ?_; intro w1 hown1 hgrow1) | (at_builtin; refine Lib.wpList_append_own_string _ rfl (.tmp 36) (.tmp 37) 23 9 rfl w'.heap.size 5 i0 Try.underlying23 Try.underlying9 hi hz0 hz1 hz2 _ _ _ rfl hown1 pre rfl (by unfold maxLen; omega) (by omega) hgrow1.size ?_; intro v2 w2 hown2 hgrow2 hx; clear hx))
  have hb1 : Below w'.heap.size w' w1 := (Below.refl _ _).grown hgrow1 (Nat.le_refl _) (fun k hk => by cases hk)
  have hb2 : Below w'.heap.size w' w2 := hb1.grown hgrow2 hgrow1.size (fun k hk => (hown1.lt k hk).1)
  have hR2 : Row w'.heap.size v2 pre.data.toList w2 := by
    have : w2.ownsRow w'.heap.size 5 1 v2 (([] : List UInt8).length + pre.size) (Lib.byteCells [] ++ Lib.strCells pre) := hown2
    simpa using Row.str this
  have hs2 := hb2.size
  clear hown1 hgrow1 hown2 hgrow2 hb1
  refine (appendQuoted _ v2 v pre.data.toList w2 hR2 hs2 (by simp; omega) (by omega)).mono ?_
  rintro e w3 ⟨v3, rfl, hR3, hb3⟩
  obtain ⟨a3, cap3, rfl⟩ := hR3.form (by simp)
  have hs3 := Nat.le_trans hs2 hb3.size
  obtain ⟨m, Hm⟩ : ∃ m, Hid (m = (pre.data.toList ++ (34 :: (Quot.qs v.data.toList ++ [34]))).length) := ⟨(pre.data.toList ++ (34 :: (Quot.qs v.data.toList ++ [34]))).length, by show _ = _; rfl⟩
  have hm : m ≤ 4000000 := by rw [Hm.out]; simp; omega
  have hown3 := hR3
  unfold Row at hown3
  rw [← Hm.out] at hown3 ⊢
  go_wp2_with (at_builtin; refine Lib.wpList_append_own_string _ rfl (.tmp 44) (.tmp 45) 23 9 rfl w'.heap.size 5 i0 Try.underlying23 Try.underlying9 hi hz0 hz1 hz2 _ _ _ rfl hown3 rest rfl (by unfold maxLen; omega) (by omega) hs3 ?_; intro v4 w4 hown4 hgrow4 hx; clear hx; have hst := string_of_own (l := (pre.data.toList ++ (34 :: (Quot.qs v.data.toList ++ [34]))) ++ rest.data.toList) (Row.str (by rw [← Hm.out]; exact hown4)))
  have hb4 : Below w'.heap.size w' w4 := (hb2.trans hb3).grown hgrow4 hs3 (fun k hk => (hown3.lt k hk).1)
  clear hst hown4 hgrow4
  have HE : Hid ((⟨(pre.data.toList ++ 34 :: (Quot.qs v.data.toList ++ 34 :: rest.data.toList)).toArray⟩ : ByteArray).data.toList = Quot.full pre.data.toList v.data.toList rest.data.toList) := by
    show _ = _
    simp [Quot.full]
  have hsz : (⟨(pre.data.toList ++ 34 :: (Quot.qs v.data.toList ++ 34 :: rest.data.toList)).toArray⟩ : ByteArray).size ≤ 4194304 := by
    rw [text_size]
    omega
  refine (scan_quoted hWB hST pre.data.toList v.data.toList rest.data.toList _ _ _ HE hsz (by omega) (by simp)).mono ?_
  rintro e w5 ⟨rfl, hb5⟩
  have hfin : (pre.data.toList.length + (Quot.qs v.data.toList).length + 2 : Nat) = m := by
    rw [Hm.out]; simp; omega
  rw [hfin]
  clear hfin
  go_wp2
  go_ret
  refine ⟨?_, hb4.trans (hb5.mono hb4.size)⟩
  simp
end Go.Proofs.Qxb6001399a
