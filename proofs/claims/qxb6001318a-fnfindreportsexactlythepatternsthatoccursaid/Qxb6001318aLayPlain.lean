/-
  LAYING THE STATES, a depth at a time: what holds on the way. No Go in sight.
-/
import Derived.Test.Qxb6001318aTrie
namespace Go.Proofs.Qxb6001318a.Pl
set_option linter.unusedSimpArgs false
set_option linter.unusedVariables false

/-- The texts of at least d bytes, by their numbers. -/
def Vd (T : List ByteArray) (d : Nat) : List Nat := (List.range T.length).filter fun i => decide (d ≤ (Txt T i).length)
/-- Of these, the longer ones. -/
def lg (T : List ByteArray) (d : Nat) (W : List Nat) : List Nat := W.filter fun i => decide (d < (Txt T i).length)

theorem lg_Vd (T : List ByteArray) (d : Nat) : lg T d (Vd T d) = Vd T (d + 1) := by
  unfold lg Vd
  rw [List.filter_filter]
  apply List.filter_congr
  intro i _
  by_cases h : d < (Txt T i).length
  · simp [h]; omega
  · simp [h]; omega

theorem filter_range {T : List ByteArray} (p : ByteArray → Bool) : T.filter p = ((List.range T.length).filter fun i => p (T.getD i ⟨#[]⟩)).map fun i => T.getD i ⟨#[]⟩ := by
  induction T using snoc_ind with
  | h0 => rfl
  | h1 T x ih =>
    rw [List.filter_append, List.length_append, List.length_singleton, List.range_succ, List.filter_append, List.map_append]
    have e1 : ∀ i, i < T.length → (T ++ [x]).getD i ⟨#[]⟩ = T.getD i ⟨#[]⟩ := by
      intro i hi
      rw [List.getD_eq_getElem?_getD, List.getD_eq_getElem?_getD, List.getElem?_append_left hi]
    have e2 : (T ++ [x]).getD T.length ⟨#[]⟩ = x := by simp
    congr 1
    · rw [ih]
      have : (List.range T.length).filter (fun i => p ((T ++ [x]).getD i ⟨#[]⟩)) = (List.range T.length).filter (fun i => p (T.getD i ⟨#[]⟩)) := by
        apply List.filter_congr
        intro i hi
        rw [e1 i (by simpa using hi)]
      rw [this]
      apply List.map_congr_left
      intro i hi
      rw [e1 i (by have := (List.mem_filter.1 hi).1; simpa using this)]
    · by_cases h : p x = true
      · simp [List.filter_cons, h]
      · simp [List.filter_cons, h]

theorem cand_Vd (T : List ByteArray) (d : Nat) : cand d T = (Vd T (d + 1)).map fun i => (Txt T i).take (d + 1) := by
  unfold cand
  rw [filter_range, List.map_map]
  rfl

theorem Vd_lt {T : List ByteArray} {d i : Nat} (h : i ∈ Vd T d) : i < T.length ∧ d ≤ (Txt T i).length := by
  unfold Vd at h
  rw [List.mem_filter] at h
  exact ⟨by simpa using h.1, by simpa using h.2⟩

/-- Text i has found its state. -/
def Done (T : List ByteArray) (d : Nat) (W : List Nat) (i : Nat) : Prop := (Txt T i).length < d ∨ ((Txt T i).length = d ∧ i ∈ W)

/-- The states so far. -/
def Lw (T : List ByteArray) (d : Nat) (W : List Nat) : List (List UInt8) := [] :: (below d T ++ adj ((lg T d W).map fun i => (Txt T i).take (d + 1)))
def Lk (T : List ByteArray) (d k : Nat) : List (List UInt8) := Lw T d ((Vd T d).take k)
/-- How many texts go on. -/
def nk (T : List ByteArray) (d k : Nat) : Nat := (lg T d ((Vd T d).take k)).length

theorem nk_le (T : List ByteArray) (d k : Nat) : nk T d k ≤ k := by
  unfold nk lg
  exact Nat.le_trans (List.length_filter_le _ _) (by rw [List.length_take]; omega)

theorem cand_split (T : List ByteArray) (d k : Nat) : ∃ X, cand d T = ((lg T d ((Vd T d).take k)).map fun i => (Txt T i).take (d + 1)) ++ X := by
  refine ⟨(lg T d ((Vd T d).drop k)).map fun i => (Txt T i).take (d + 1), ?_⟩
  rw [cand_Vd, ← lg_Vd, ← List.map_append]
  congr 1
  unfold lg
  rw [← List.filter_append, List.take_append_drop]

def Srt (T : List ByteArray) : Prop := T.Pairwise (fun a b => ltB (tb a) (tb b) = true)

theorem mem_part {T : List ByteArray} {d k : Nat} {u : List UInt8} (h : u ∈ adj ((lg T d ((Vd T d).take k)).map fun i => (Txt T i).take (d + 1))) : u.length = d + 1 := by
  rw [adj_mem, List.mem_map] at h
  obtain ⟨i, hi, rfl⟩ := h
  unfold lg at hi
  rw [List.mem_filter] at hi
  have := hi.2
  simp at this
  rw [List.length_take]; omega

theorem Lk_sorted {T : List ByteArray} (hs : Srt T) (d k : Nat) : (Lk T d k).Pairwise slt := by
  unfold Lk Lw
  obtain ⟨X, hX⟩ := cand_split T d k
  have h1 := cand_sorted d T hs
  rw [hX, List.pairwise_append] at h1
  have h2 := adj_sorted _ h1.1
  rw [List.pairwise_cons, List.pairwise_append]
  refine ⟨fun a ha => ?_, below_sorted T hs d, ?_, ?_⟩
  · left
    rcases List.mem_append.1 ha with ha | ha
    · obtain ⟨e, _, h⟩ := (mem_below d T a).1 ha
      rw [lev_length e T a h]; simp
    · rw [mem_part ha]; simp
  · exact pw_of _ (fun a ha b hb h => .inr ⟨by rw [mem_part ha, mem_part hb], h⟩) h2
  · intro a ha b hb
    left
    obtain ⟨e, he, h⟩ := (mem_below d T a).1 ha
    rw [lev_length e T a h, mem_part hb]; omega

theorem bound (T : List ByteArray) : ∃ M, ∀ t ∈ T, (tb t).length ≤ M := by
  induction T with
  | nil => exact ⟨0, by simp⟩
  | cons x T ih =>
    obtain ⟨M, h⟩ := ih
    refine ⟨max M (tb x).length, fun t ht => ?_⟩
    rcases List.mem_cons.1 ht with e | e
    · subst e; exact Nat.le_max_right _ _
    · exact Nat.le_trans (h t e) (Nat.le_max_left _ _)

theorem below_le {T : List ByteArray} (hs : Srt T) (d : Nat) : (below d T).length ≤ cnt [] T := by
  obtain ⟨M, hM⟩ := bound T
  rw [← below_len (max d M) T hs fun t ht => Nat.le_trans (hM t ht) (Nat.le_max_right _ _)]
  exact below_mono _ _ T (Nat.le_max_left _ _)

theorem Lk_le {T : List ByteArray} (hs : Srt T) (d k : Nat) : (Lk T d k).length ≤ 1 + cnt [] T := by
  have h := below_le hs (d + 1)
  obtain ⟨X, hX⟩ := cand_split T d k
  have h2 := adj_len ((lg T d ((Vd T d).take k)).map fun i => (Txt T i).take (d + 1)) X
  rw [← hX] at h2
  rw [below_succ, List.length_append] at h
  unfold lev at h
  unfold Lk Lw
  rw [List.length_cons, List.length_append]
  omega

theorem Lk_pos (T : List ByteArray) (d k : Nat) : 0 < (Lk T d k).length := by unfold Lk Lw; simp

/-- What holds with k of the live texts of depth d done. -/
structure LI (T : List ByteArray) (d k : Nat) (par : Nat → Nat) (lab : Nat → UInt8) (out : Nat → Int) (en lv at' : Nat → Nat) (lA : Int) (lB : UInt8) : Prop where
  par : ∀ s, 0 < s → s < (Lk T d k).length → par s < s ∧ pf (Lk T d k) s = pf (Lk T d k) (par s) ++ [lab s]
  out : ∀ s, s < (Lk T d k).length → (∃ i, i < T.length ∧ Done T d ((Vd T d).take k) i ∧ Txt T i = pf (Lk T d k) s ∧ out s = (i : Int)) ∨ (out s = -1 ∧ ∀ i, i < T.length → Done T d ((Vd T d).take k) i → Txt T i ≠ pf (Lk T d k) s)
  en : ∀ i, i < T.length → Done T d ((Vd T d).take k) i → en i < (Lk T d k).length ∧ pf (Lk T d k) (en i) = Txt T i
  don : ∀ j, j < nk T d k → lv j = (lg T d ((Vd T d).take k)).getD j 0 ∧ at' j < (Lk T d k).length ∧ pf (Lk T d k) (at' j) = (Txt T (lv j)).take (d + 1)
  todo : ∀ j, k ≤ j → j < (Vd T d).length → lv j = (Vd T d).getD j 0 ∧ at' j < (Lk T d k).length ∧ pf (Lk T d k) (at' j) = (Txt T (lv j)).take d
  last : (lg T d ((Vd T d).take k) = [] ∧ lA = -1) ∨ ∃ (F : List Nat) (i sA : Nat), lg T d ((Vd T d).take k) = F ++ [i] ∧ lA = (sA : Int) ∧ sA < (Lk T d k).length ∧ pf (Lk T d k) sA = (Txt T i).take d ∧ (Txt T i)[d]? = some lB

theorem getD_of {α : Type} {l : List α} {j : Nat} {z : α} (h : j < l.length) : l.getD j z = l[j] := by
  rw [List.getD_eq_getElem?_getD, List.getElem?_eq_getElem h]; rfl

theorem LI.start (T : List ByteArray) (par : Nat → Nat) (lab : Nat → UInt8) (out : Nat → Int) (en : Nat → Nat) (lv at' : Nat → Nat) (ho : out 0 = -1) (hl : ∀ j, j < T.length → lv j = j) (ha : ∀ j, j < T.length → at' j = 0) : LI T 0 0 par lab out en lv at' (-1) 0 := by
  have hL : Lk T 0 0 = [[]] := by unfold Lk Lw below; simp [lg, adj_nil]
  have hV : Vd T 0 = List.range T.length := by unfold Vd; simp
  have hD : ∀ i, ¬ Done T 0 ((Vd T 0).take 0) i := by
    intro i h
    rcases h with h | h
    · omega
    · simp at h
  refine ⟨?_, ?_, ?_, ?_, ?_, ?_⟩
  · rw [hL]; intro s h1 h2; simp at h2; omega
  · rw [hL]; intro s h2; simp at h2; subst h2
    exact .inr ⟨ho, fun i _ h => absurd h (hD i)⟩
  · intro i _ h; exact absurd h (hD i)
  · intro j hj; have := nk_le T 0 0; omega
  · intro j _ hj
    rw [hV] at hj ⊢
    simp at hj
    rw [hL, ha j hj, hl j hj]
    refine ⟨by rw [getD_of (by simpa using hj)]; simp, by simp, by simp [pf]⟩
  · left; simp [lg]

theorem take_next {T : List ByteArray} {d k : Nat} (hk : k < (Vd T d).length) : (Vd T d).take (k + 1) = (Vd T d).take k ++ [(Vd T d).getD k 0] := by
  rw [List.take_succ_eq_append_getElem hk, getD_of hk]

theorem lg_next {T : List ByteArray} {d k : Nat} (hk : k < (Vd T d).length) : lg T d ((Vd T d).take (k + 1)) = lg T d ((Vd T d).take k) ++ (if d < (Txt T ((Vd T d).getD k 0)).length then [(Vd T d).getD k 0] else []) := by
  rw [take_next hk]
  unfold lg
  rw [List.filter_append]
  congr 1
  by_cases h : d < (Txt T ((Vd T d).getD k 0)).length
  · rw [if_pos h, List.filter_cons_of_pos (by simpa using h)]; rfl
  · rw [if_neg h, List.filter_cons_of_neg (by simpa using h)]; rfl

theorem Lk_short {T : List ByteArray} {d k : Nat} (hk : k < (Vd T d).length) (hx : ¬ d < (Txt T ((Vd T d).getD k 0)).length) : Lk T d (k + 1) = Lk T d k ∧ nk T d (k + 1) = nk T d k ∧ lg T d ((Vd T d).take (k + 1)) = lg T d ((Vd T d).take k) := by
  have h := lg_next hk
  rw [if_neg hx, List.append_nil] at h
  unfold Lk Lw nk
  rw [h]; exact ⟨rfl, rfl, rfl⟩

theorem Lk_long {T : List ByteArray} {d k : Nat} (hk : k < (Vd T d).length) (hx : d < (Txt T ((Vd T d).getD k 0)).length) :
    nk T d (k + 1) = nk T d k + 1 ∧ lg T d ((Vd T d).take (k + 1)) = lg T d ((Vd T d).take k) ++ [(Vd T d).getD k 0] ∧
    Lk T d (k + 1) = if (adj ((lg T d ((Vd T d).take k)).map fun i => (Txt T i).take (d + 1))).getLast? = some ((Txt T ((Vd T d).getD k 0)).take (d + 1)) then Lk T d k else Lk T d k ++ [(Txt T ((Vd T d).getD k 0)).take (d + 1)] := by
  have h := lg_next hk
  rw [if_pos hx] at h
  unfold Lk Lw nk
  rw [h, List.map_append, List.map_singleton, adj_snoc]
  refine ⟨by simp, rfl, ?_⟩
  unfold adjS
  split <;> simp

theorem take_succ_of {l : List UInt8} {d : Nat} {c : UInt8} (h : l[d]? = some c) : l.take (d + 1) = l.take d ++ [c] := by
  obtain ⟨hd, e⟩ := List.getElem?_eq_some_iff.1 h
  rw [List.take_succ_eq_append_getElem hd, e]

section
variable {T : List ByteArray} {d k : Nat} {par : Nat → Nat} {lab : Nat → UInt8} {out : Nat → Int} {en lv at' : Nat → Nat} {lA : Int} {lB : UInt8}

/-- Whether the text before shares the state to come. -/
theorem LI.differs (h : LI T d k par lab out en lv at' lA lB) (hs : Srt T) (hk : k < (Vd T d).length) {x s : Nat} {c : UInt8} (hx : (Vd T d).getD k 0 = x) (hsl : s < (Lk T d k).length) (hp : pf (Lk T d k) s = (Txt T x).take d) (hc : (Txt T x)[d]? = some c) :
    (adj ((lg T d ((Vd T d).take k)).map fun i => (Txt T i).take (d + 1))).getLast? = some ((Txt T x).take (d + 1)) ↔ (s : Int) = lA ∧ c = lB := by
  rcases h.last with ⟨h1, h2⟩ | ⟨F, i, sA, h1, h2, h3, h4, h5⟩
  · rw [h1, h2]
    constructor
    · intro h; simp [adj_nil] at h
    · rintro ⟨h, _⟩; omega
  · rw [h1, List.map_append, List.map_singleton, adj_last, h2, take_succ_of h5, take_succ_of hc, ← h4, ← hp]
    constructor
    · intro h
      have h := List.append_inj' (Option.some.inj h) rfl
      have e := pf_inj (Lk_sorted hs d k) h3 hsl h.1
      have e2 := h.2
      simp at e2
      exact ⟨by rw [e], e2.symm⟩
    · rintro ⟨h, e⟩
      have : s = sA := by omega
      rw [this, e]

theorem LI.here (h : LI T d k par lab out en lv at' lA lB) (hk : k < (Vd T d).length) : lv k = (Vd T d).getD k 0 ∧ lv k < T.length ∧ d ≤ (Txt T (lv k)).length ∧ at' k < (Lk T d k).length ∧ pf (Lk T d k) (at' k) = (Txt T (lv k)).take d := by
  obtain ⟨h1, h2, h3⟩ := h.todo k (Nat.le_refl _) hk
  have hm : lv k ∈ Vd T d := by rw [h1, getD_of hk]; exact List.getElem_mem hk
  exact ⟨h1, (Vd_lt hm).1, (Vd_lt hm).2, h2, h3⟩

/-- A text that ends here. -/
theorem LI.short (h : LI T d k par lab out en lv at' lA lB) (hs : Srt T) (hk : k < (Vd T d).length) (hx : (Txt T (lv k)).length = d) :
    LI T d (k + 1) par lab (fun s => if s = at' k then (lv k : Int) else out s) (fun i => if i = lv k then at' k else en i) lv at' lA lB ∧ (Lk T d (k + 1)) = Lk T d k ∧ nk T d (k + 1) = nk T d k := by
  obtain ⟨e1, e2, e3, e4, e5⟩ := h.here hk
  have e5' : pf (Lk T d k) (at' k) = Txt T (lv k) := by rw [e5, List.take_of_length_le (by omega)]
  obtain ⟨f1, f2, f3⟩ := Lk_short hk (by rw [← e1]; omega)
  have hD : ∀ i, Done T d ((Vd T d).take (k + 1)) i ↔ Done T d ((Vd T d).take k) i ∨ i = lv k := by
    intro i
    unfold Done
    rw [take_next hk, ← e1, List.mem_append, List.mem_singleton]
    constructor
    · rintro (h | ⟨h0, h | h⟩)
      · exact .inl (.inl h)
      · exact .inl (.inr ⟨h0, h⟩)
      · exact .inr h
    · rintro ((h | h) | h)
      · exact .inl h
      · exact .inr ⟨h.1, .inl h.2⟩
      · exact .inr ⟨by rw [h]; exact hx, .inr h⟩
  refine ⟨⟨?_, ?_, ?_, ?_, ?_, ?_⟩, f1, f2⟩
  · rw [f1]; exact h.par
  · rw [f1]
    intro s hsl
    by_cases e : s = at' k
    · subst e
      left
      refine ⟨lv k, e2, (hD _).2 (.inr rfl), e5'.symm, by simp⟩
    · have hne : Txt T (lv k) ≠ pf (Lk T d k) s := by
        intro h2
        rw [← e5'] at h2
        exact e (pf_inj (Lk_sorted hs d k) hsl e4 h2.symm)
      rcases h.out s hsl with ⟨i, h1, h2, h3, h4⟩ | ⟨h1, h2⟩
      · left; exact ⟨i, h1, (hD _).2 (.inl h2), h3, by simp [e, h4]⟩
      · right
        refine ⟨by simp [e, h1], fun i hi hd => ?_⟩
        rcases (hD i).1 hd with hd | hd
        · exact h2 i hi hd
        · rw [hd]; exact hne
  · rw [f1]
    intro i hi hd
    by_cases e : i = lv k
    · subst e; simp; exact ⟨e4, e5'⟩
    · rcases (hD i).1 hd with hd | hd
      · simp [e]; exact h.en i hi hd
      · exact absurd hd e
  · rw [f1, f2, f3]; exact h.don
  · rw [f1]; intro j hj; exact h.todo j (by omega)
  · rw [f1, f3]; exact h.last

theorem done_long (hk : k < (Vd T d).length) (hx : d < (Txt T ((Vd T d).getD k 0)).length) (i : Nat) : Done T d ((Vd T d).take (k + 1)) i ↔ Done T d ((Vd T d).take k) i := by
  unfold Done
  rw [take_next hk, List.mem_append, List.mem_singleton]
  constructor
  · rintro (h | ⟨h0, h | h⟩)
    · exact .inl h
    · exact .inr ⟨h0, h⟩
    · rw [h] at h0; omega
  · rintro (h | h)
    · exact .inl h
    · exact .inr ⟨h.1, .inl h.2⟩

/-- A text that goes on in the state last made. -/
theorem LI.same (h : LI T d k par lab out en lv at' lA lB) (hs : Srt T) (hk : k < (Vd T d).length) {c : UInt8} (hc : (Txt T (lv k))[d]? = some c) (hA : (at' k : Int) = lA) (hB : c = lB) :
    LI T d (k + 1) par lab out en (fun j => if j = nk T d k then lv k else lv j) (fun j => if j = nk T d k then (Lk T d k).length - 1 else at' j) lA lB ∧ Lk T d (k + 1) = Lk T d k ∧ nk T d (k + 1) = nk T d k + 1 := by
  obtain ⟨e1, e2, e3, e4, e5⟩ := h.here hk
  have hd := (List.getElem?_eq_some_iff.1 hc).1
  obtain ⟨f2, f3, f1⟩ := Lk_long hk (by rw [← e1]; exact hd)
  rw [← e1] at f1 f3
  have hlast := (h.differs hs hk e1.symm e4 e5 hc).2 ⟨hA, hB⟩
  rw [if_pos hlast] at f1
  have hD := done_long hk (by rw [← e1]; exact hd)
  have hpl : pf (Lk T d k) ((Lk T d k).length - 1) = (Txt T (lv k)).take (d + 1) := by
    have hg : (Lk T d k).getLast? = some ((Txt T (lv k)).take (d + 1)) := by
      unfold Lk Lw
      rw [List.getLast?_cons, List.getLast?_append, hlast]; rfl
    rw [pf_get (by have := Lk_pos T d k; omega)]
    rw [List.getLast?_eq_getElem?, List.getElem?_eq_getElem (by have := Lk_pos T d k; omega)] at hg
    exact Option.some.inj hg
  have hn := nk_le T d k
  refine ⟨⟨?_, ?_, ?_, ?_, ?_, ?_⟩, f1, f2⟩
  · rw [f1]; exact h.par
  · rw [f1]; intro s hsl
    rcases h.out s hsl with ⟨i, h1, h2, h3, h4⟩ | ⟨h1, h2⟩
    · exact .inl ⟨i, h1, (hD _).2 h2, h3, h4⟩
    · exact .inr ⟨h1, fun i hi hd => h2 i hi ((hD i).1 hd)⟩
  · rw [f1]; intro i hi hd; exact h.en i hi ((hD i).1 hd)
  · rw [f1, f2, f3]
    intro j hj
    by_cases e : j = nk T d k
    · subst e
      simp only [if_true]
      refine ⟨?_, by have := Lk_pos T d k; omega, hpl⟩
      unfold nk; simp
    · simp only [if_neg e]
      obtain ⟨g1, g2, g3⟩ := h.don j (by omega)
      refine ⟨?_, g2, g3⟩
      rw [g1]
      rw [List.getD_eq_getElem?_getD, List.getD_eq_getElem?_getD, List.getElem?_append_left (by unfold nk at *; omega)]
  · rw [f1]
    intro j hj1 hj2
    have e : j ≠ nk T d k := by omega
    simp only [if_neg e]
    exact h.todo j (by omega) hj2
  · rw [f1, f3]
    right
    exact ⟨_, lv k, at' k, rfl, hA.symm, e4, e5, by rw [← hB]; exact hc⟩

/-- .. or opens one. -/
theorem LI.fresh (h : LI T d k par lab out en lv at' lA lB) (hs : Srt T) (hk : k < (Vd T d).length) {c : UInt8} (hc : (Txt T (lv k))[d]? = some c) (hne : ¬ ((at' k : Int) = lA ∧ c = lB)) :
    LI T d (k + 1) (fun s => if s = (Lk T d k).length then at' k else par s) (fun s => if s = (Lk T d k).length then c else lab s) (fun s => if s = (Lk T d k).length then -1 else out s) en (fun j => if j = nk T d k then lv k else lv j) (fun j => if j = nk T d k then (Lk T d k).length else at' j) (at' k) c ∧ (Lk T d (k + 1)).length = (Lk T d k).length + 1 ∧ nk T d (k + 1) = nk T d k + 1 := by
  obtain ⟨e1, e2, e3, e4, e5⟩ := h.here hk
  have hd := (List.getElem?_eq_some_iff.1 hc).1
  obtain ⟨f2, f3, f1⟩ := Lk_long hk (by rw [← e1]; exact hd)
  rw [← e1] at f1 f3
  have hlast : ¬ _ := fun h' => hne ((h.differs hs hk e1.symm e4 e5 hc).1 h')
  rw [if_neg hlast] at f1
  have hD := done_long hk (by rw [← e1]; exact hd)
  have hn := nk_le T d k
  have hlen : (Lk T d (k + 1)).length = (Lk T d k).length + 1 := by rw [f1]; simp
  have hold : ∀ s, s < (Lk T d k).length → pf (Lk T d (k + 1)) s = pf (Lk T d k) s := by
    intro s hsl
    rw [f1]; unfold pf
    rw [List.getD_eq_getElem?_getD, List.getD_eq_getElem?_getD, List.getElem?_append_left hsl]
  have hnew : pf (Lk T d (k + 1)) (Lk T d k).length = (Txt T (lv k)).take (d + 1) := by
    rw [f1]; unfold pf; simp
  refine ⟨⟨?_, ?_, ?_, ?_, ?_, ?_⟩, hlen, f2⟩
  · intro s h0 hsl
    by_cases e : s = (Lk T d k).length
    · subst e
      simp only [if_true]
      refine ⟨e4, ?_⟩
      rw [hnew, hold _ e4, e5, take_succ_of hc]
    · simp only [if_neg e]
      obtain ⟨g1, g2⟩ := h.par s h0 (by omega)
      refine ⟨g1, ?_⟩
      rw [hold s (by omega), hold _ (by omega)]; exact g2
  · intro s hsl
    by_cases e : s = (Lk T d k).length
    · subst e
      right
      refine ⟨by simp, fun i hi hd' heq => ?_⟩
      rw [hnew] at heq
      have h1 := congrArg List.length heq
      rw [List.length_take] at h1
      rcases (hD i).1 hd' with h2 | ⟨h2, _⟩ <;> omega
    · simp only [if_neg e]
      rw [hold s (by omega)]
      rcases h.out s (by omega) with ⟨i, h1, h2, h3, h4⟩ | ⟨h1, h2⟩
      · exact .inl ⟨i, h1, (hD _).2 h2, h3, h4⟩
      · exact .inr ⟨h1, fun i hi hd => h2 i hi ((hD i).1 hd)⟩
  · intro i hi hd'
    obtain ⟨g1, g2⟩ := h.en i hi ((hD i).1 hd')
    exact ⟨by omega, by rw [hold _ g1]; exact g2⟩
  · rw [f2, f3]
    intro j hj
    by_cases e : j = nk T d k
    · subst e
      simp only [if_true]
      refine ⟨?_, by omega, hnew⟩
      unfold nk; simp
    · simp only [if_neg e]
      obtain ⟨g1, g2, g3⟩ := h.don j (by omega)
      refine ⟨?_, by omega, by rw [hold _ g2]; exact g3⟩
      rw [g1]
      rw [List.getD_eq_getElem?_getD, List.getD_eq_getElem?_getD, List.getElem?_append_left (by unfold nk at *; omega)]
  · intro j hj1 hj2
    have e : j ≠ nk T d k := by omega
    simp only [if_neg e]
    obtain ⟨g1, g2, g3⟩ := h.todo j (by omega) hj2
    exact ⟨g1, by omega, by rw [hold _ g2]; exact g3⟩
  · rw [f3]
    right
    exact ⟨_, lv k, at' k, rfl, rfl, by omega, by rw [hold _ e4]; exact e5, hc⟩

theorem Lk_next (T : List ByteArray) (d : Nat) : Lk T d (Vd T d).length = Lk T (d + 1) 0 ∧ nk T d (Vd T d).length = (Vd T (d + 1)).length := by
  unfold Lk Lw nk
  rw [List.take_length, lg_Vd, ← cand_Vd, List.take_zero, below_succ]
  refine ⟨?_, rfl⟩
  show _ = [] :: ((below d T ++ adj (cand d T)) ++ adj [])
  rw [adj_nil, List.append_nil]

/-- On to the next depth. -/
theorem LI.deeper (h : LI T d (Vd T d).length par lab out en lv at' lA lB) : LI T (d + 1) 0 par lab out en lv at' (-1) 0 := by
  obtain ⟨f1, f2⟩ := Lk_next T d
  have hD : ∀ i, i < T.length → (Done T (d + 1) ((Vd T (d + 1)).take 0) i ↔ Done T d ((Vd T d).take (Vd T d).length) i) := by
    intro i hi
    unfold Done
    rw [List.take_zero, List.take_length]
    simp only [List.not_mem_nil, and_false, or_false]
    constructor
    · intro h1
      by_cases e : (Txt T i).length = d
      · right
        refine ⟨e, ?_⟩
        unfold Vd
        rw [List.mem_filter]
        exact ⟨by simpa using hi, by simp; omega⟩
      · left; omega
    · rintro (h1 | ⟨h1, _⟩) <;> omega
  refine ⟨?_, ?_, ?_, ?_, ?_, ?_⟩
  · rw [← f1]; exact h.par
  · rw [← f1]
    intro s hsl
    rcases h.out s hsl with ⟨i, h1, h2, h3, h4⟩ | ⟨h1, h2⟩
    · exact .inl ⟨i, h1, (hD i h1).2 h2, h3, h4⟩
    · exact .inr ⟨h1, fun i hi hd => h2 i hi ((hD i hi).1 hd)⟩
  · rw [← f1]; intro i hi hd; exact h.en i hi ((hD i hi).1 hd)
  · intro j hj; have := nk_le T (d + 1) 0; omega
  · rw [← f1, ← f2]
    intro j _ hj
    obtain ⟨g1, g2, g3⟩ := h.don j hj
    refine ⟨?_, g2, g3⟩
    rw [g1, List.take_length, lg_Vd]
  · left; simp [lg]

/-- What is left when no text goes on. -/
structure LE (T : List ByteArray) (L : List (List UInt8)) (par : Nat → Nat) (lab : Nat → UInt8) (out : Nat → Int) (en : Nat → Nat) : Prop where
  trie : Trie T L par lab
  len : L.length = 1 + cnt [] T
  out : ∀ s, s < L.length → (∃ i, i < T.length ∧ Txt T i = pf L s ∧ out s = (i : Int)) ∨ (out s = -1 ∧ ∀ i, i < T.length → Txt T i ≠ pf L s)
  en : ∀ i, i < T.length → en i < L.length ∧ pf L (en i) = Txt T i

theorem LI.fin (h : LI T d 0 par lab out en lv at' lA lB) (hs : Srt T) (h0 : (Vd T d).length = 0) : LE T (Lk T d 0) par lab out en := by
  have hall : ∀ i, i < T.length → (Txt T i).length < d := by
    intro i hi
    apply Classical.byContradiction
    intro hc
    have : i ∈ Vd T d := by
      unfold Vd; rw [List.mem_filter]; exact ⟨by simpa using hi, by simp; omega⟩
    rw [List.length_eq_zero_iff.1 h0] at this
    simp at this
  have hM : ∀ t ∈ T, (tb t).length ≤ d := by
    intro t ht
    obtain ⟨i, hi, e⟩ := List.getElem_of_mem ht
    have := hall i hi
    unfold Txt at this
    rw [getD_of hi, e] at this
    omega
  have hL : Lk T d 0 = pfs d T := by
    unfold Lk Lw pfs
    simp [lg, adj_nil]
  have hD : ∀ i, i < T.length → Done T d ((Vd T d).take 0) i := fun i hi => .inl (hall i hi)
  refine ⟨⟨Lk_sorted hs d 0, by unfold Lk Lw pf; simp, Lk_pos T d 0, fun u => by rw [hL]; exact mem_pfs hM u, h.par⟩, ?_, ?_, ?_⟩
  · rw [hL]; unfold pfs
    rw [List.length_cons, below_len d T hs hM]; omega
  · intro s hsl
    rcases h.out s hsl with ⟨i, h1, h2, h3, h4⟩ | ⟨h1, h2⟩
    · exact .inl ⟨i, h1, h3, h4⟩
    · exact .inr ⟨h1, fun i hi => h2 i hi (hD i hi)⟩
  · intro i hi; exact h.en i hi (hD i hi)
end

/-! ### first -/
/-- How many states from 1 up to n have the parent q. -/
def eqP (par : Nat → Nat) (q : Nat) : Nat → Nat
  | 0 => 0
  | n + 1 => eqP par q n + (if 0 < n ∧ par n = q then 1 else 0)

theorem eqP_le (par : Nat → Nat) (q : Nat) : ∀ n, eqP par q n ≤ n
  | 0 => Nat.le_refl _
  | n + 1 => by rw [eqP]; have := eqP_le par q n; split <;> omega

theorem cntP_le (par : Nat → Nat) (q : Nat) : ∀ n, cntP par q n ≤ n - 1
  | 0 => Nat.le_refl _
  | n + 1 => by
    rw [cntP]; have := cntP_le par q n
    split <;> omega

theorem cntP_succ (par : Nat → Nat) (q : Nat) : ∀ n, cntP par (q + 1) n = cntP par q n + eqP par q n
  | 0 => rfl
  | n + 1 => by
    rw [cntP, cntP, eqP, cntP_succ par q n]
    by_cases h0 : 0 < n
    · by_cases h1 : par n < q
      · have h2 : par n < q + 1 := by omega
        have h3 : par n ≠ q := by omega
        simp [h0, h1, h2, h3]; omega
      · by_cases h2 : par n = q
        · have h3 : par n < q + 1 := by omega
          simp [h0, h1, h2]; omega
        · have h3 : ¬ par n < q + 1 := by omega
          simp [h1, h2, h3]
    · simp [h0]

theorem cntP_zero (par : Nat → Nat) : ∀ n, cntP par 0 n = 0
  | 0 => rfl
  | n + 1 => by rw [cntP, cntP_zero par n]; simp

/-- While the parents are counted. -/
def fA (par : Nat → Nat) (m q : Nat) : Nat := if q = 0 then 1 else eqP par (q - 1) m
/-- While the counts are summed. -/
def fB (par : Nat → Nat) (n s q : Nat) : Nat := if q < s then fstC par n q else eqP par (q - 1) n

theorem fA_step (par : Nat → Nat) (m q : Nat) (hm : 0 < m) : fA par (m + 1) q = if q = par m + 1 then fA par m (par m + 1) + 1 else fA par m q := by
  unfold fA
  by_cases h0 : q = 0
  · subst h0; simp
  · rw [if_neg h0, eqP]
    by_cases h1 : q = par m + 1
    · subst h1; simp [hm]
    · have : ¬ par m = q - 1 := by omega
      simp [h0, h1, this]

theorem fA_fB (par : Nat → Nat) (n q : Nat) : fA par n q = fB par n 1 q := by
  unfold fA fB fstC
  by_cases h0 : q = 0
  · subst h0; simp [cntP_zero]
  · have : ¬ q < 1 := by omega
    simp [h0, this]

theorem fB_step (par : Nat → Nat) (n s q : Nat) (hs : 0 < s) : fB par n (s + 1) q = if q = s then fB par n s s + fB par n s (s - 1) else fB par n s q := by
  unfold fB
  by_cases h1 : q = s
  · subst h1
    have h2 : q - 1 < q := by omega
    have h3 : q = (q - 1) + 1 := by omega
    simp [h2]
    unfold fstC
    conv => lhs; rw [h3, cntP_succ]
    omega
  · by_cases h2 : q < s
    · have : q < s + 1 := by omega
      simp [h1, h2, this]
    · have : ¬ q < s + 1 := by omega
      simp [h1, h2, this]

theorem fA_le (par : Nat → Nat) (m q : Nat) : fA par m q ≤ m + 1 := by
  unfold fA
  have := eqP_le par (q - 1) m
  split <;> omega
theorem fB_le (par : Nat → Nat) (n s q : Nat) : fB par n s q ≤ n + 1 := by
  unfold fB fstC
  have := eqP_le par (q - 1) n
  have := cntP_le par q n
  split <;> omega
end Go.Proofs.Qxb6001318a.Pl
