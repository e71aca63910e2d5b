/-
  THE STATES, LEVEL BY LEVEL. No Go in sight.
-/
import Derived.Test.Qxb6001318aAdj
namespace Go.Proofs.Qxb6001318a.Pl
set_option linter.unusedSimpArgs false
set_option linter.unusedVariables false

theorem pw_of {α : Type} {R S : α → α → Prop} : ∀ (l : List α), (∀ a ∈ l, ∀ b ∈ l, R a b → S a b) → l.Pairwise R → l.Pairwise S
  | [], _, _ => List.Pairwise.nil
  | x :: l, h, hp => by
    rw [List.pairwise_cons] at hp ⊢
    exact ⟨fun b hb => h x (by simp) b (by simp [hb]) (hp.1 b hb), pw_of l (fun a ha b hb => h a (by simp [ha]) b (by simp [hb])) hp.2⟩

/-- The prefixes of length d + 1 of the texts that are longer than d, in the texts' order. -/
def cand (d : Nat) (T : List ByteArray) : List (List UInt8) := (T.filter fun t => decide (d < (tb t).length)).map fun t => (tb t).take (d + 1)
/-- The states of depth d + 1. -/
def lev (d : Nat) (T : List ByteArray) : List (List UInt8) := adj (cand d T)

theorem cand_snoc (d : Nat) (T : List ByteArray) (x : ByteArray) : cand d (T ++ [x]) = cand d T ++ (if d < (tb x).length then [(tb x).take (d + 1)] else []) := by
  unfold cand
  rw [List.filter_append, List.map_append]
  by_cases h : d < (tb x).length
  · simp [h]
  · simp [h]

/-- The last candidate is that of the last text that is long enough. -/
theorem lev_last {d : Nat} {T : List ByteArray} {x : ByteArray} (hs : (T ++ [x]).Pairwise (fun a b => ltB (tb a) (tb b) = true)) (hx : d < (tb x).length) :
    (lev d T).getLast? = some ((tb x).take (d + 1)) ↔ d + 1 ≤ lcp (tb x) (lastB [] T) := by
  rcases List.eq_nil_or_concat T with e | ⟨V, y, e⟩
  · subst e
    simp [lev, cand, adj_nil, lastB]
    have := (lcp_le (tb x) []).2
    simp at this
    omega
  · rw [List.concat_eq_append] at e
    subst e
    rw [lastB_snoc]
    have hp := hs
    rw [List.pairwise_append] at hp
    have hyx : ltB (tb y) (tb x) = true := hp.2.2 y (by simp) x (by simp)
    by_cases hy : d < (tb y).length
    · have : (lev d (V ++ [y])).getLast? = some ((tb y).take (d + 1)) := by
        unfold lev; rw [cand_snoc, if_pos hy]; exact adj_last _ _
      rw [this, ← take_lcp (tb x) (tb y) (d + 1) hx hy]
      simp only [Option.some.injEq]
      exact eq_comm
    · constructor
      · intro hl
        exfalso
        have e1 : lev d (V ++ [y]) = lev d V := by unfold lev; rw [cand_snoc, if_neg hy, List.append_nil]
        rw [e1] at hl
        have hm := (adj_mem _ _).1 (List.mem_of_getLast? hl)
        unfold cand at hm
        rw [List.mem_map] at hm
        obtain ⟨t, ht, he⟩ := hm
        rw [List.mem_filter] at ht
        have hlt : d < (tb t).length := by simpa using ht.2
        have hty : ltB (tb t) (tb y) = true := by
          have := hp.1
          rw [List.pairwise_append] at this
          exact this.2.2 t ht.1 y (by simp)
        have := (between (tb t) (tb y) (tb x) (d + 1) hty hyx hlt hx he).1
        omega
      · intro h
        have := (lcp_le (tb x) (tb y)).2
        omega

theorem lev_snoc_len {d : Nat} {T : List ByteArray} {x : ByteArray} (hs : (T ++ [x]).Pairwise (fun a b => ltB (tb a) (tb b) = true)) :
    (lev d (T ++ [x])).length = (lev d T).length + (if lcp (tb x) (lastB [] T) ≤ d ∧ d < (tb x).length then 1 else 0) := by
  by_cases hx : d < (tb x).length
  · have e : lev d (T ++ [x]) = adjS (lev d T) ((tb x).take (d + 1)) := by unfold lev; rw [cand_snoc, if_pos hx, adj_snoc]
    rw [e]
    unfold adjS
    by_cases hl : d + 1 ≤ lcp (tb x) (lastB [] T)
    · rw [if_pos ((lev_last hs hx).2 hl), if_neg (by omega)]; rfl
    · rw [if_neg (fun h => hl ((lev_last hs hx).1 h)), if_pos ⟨by omega, hx⟩]; simp
  · have e : lev d (T ++ [x]) = lev d T := by unfold lev; rw [cand_snoc, if_neg hx, List.append_nil]
    rw [e, if_neg (by omega)]; rfl

/-- The states of depth at most M, without the root. -/
def below (M : Nat) (T : List ByteArray) : List (List UInt8) := (List.range M).flatMap fun d => lev d T

theorem below_succ (M : Nat) (T : List ByteArray) : below (M + 1) T = below M T ++ lev M T := by
  unfold below
  rw [List.range_succ, List.flatMap_append]; simp

theorem below_len_snoc {T : List ByteArray} {x : ByteArray} (hs : (T ++ [x]).Pairwise (fun a b => ltB (tb a) (tb b) = true)) : ∀ M,
    (below M (T ++ [x])).length = (below M T).length + (min M (tb x).length - min M (lcp (tb x) (lastB [] T)))
  | 0 => by simp [below]
  | M + 1 => by
    rw [below_succ, below_succ, List.length_append, List.length_append, below_len_snoc hs M, lev_snoc_len hs]
    have := (lcp_le (tb x) (lastB [] T)).1
    split <;> omega

/-- As many states as counted. -/
theorem below_len (M : Nat) (T : List ByteArray) (hs : T.Pairwise (fun a b => ltB (tb a) (tb b) = true)) (hM : ∀ t ∈ T, (tb t).length ≤ M) : (below M T).length = cnt [] T := by
  induction T using snoc_ind with
  | h0 =>
    have : ∀ M, (below M []).length = 0 := by
      intro M
      induction M with
      | zero => rfl
      | succ M ih => rw [below_succ, List.length_append, ih]; rfl
    rw [this]; rfl
  | h1 T x ih =>
    have h1 := (List.pairwise_append.1 hs).1
    rw [below_len_snoc hs, ih h1 (fun t ht => hM t (by simp [ht])), cnt_snoc]
    have h2 := hM x (by simp)
    have h3 := (lcp_le (tb x) (lastB [] T)).1
    rw [Nat.min_eq_right h2, Nat.min_eq_right (by omega)]

/-- Never more than all. -/
theorem below_mono (M M' : Nat) (T : List ByteArray) (h : M ≤ M') : (below M T).length ≤ (below M' T).length := by
  induction M' with
  | zero => have : M = 0 := by omega
            subst this; exact Nat.le_refl _
  | succ M' ih =>
    by_cases e : M = M' + 1
    · subst e; exact Nat.le_refl _
    · rw [below_succ, List.length_append]
      have := ih (by omega)
      omega

/-- All states: the root, then level by level. -/
def pfs (M : Nat) (T : List ByteArray) : List (List UInt8) := [] :: below M T

theorem mem_lev (d : Nat) (T : List ByteArray) (u : List UInt8) : u ∈ lev d T ↔ ∃ t ∈ T, d < (tb t).length ∧ u = (tb t).take (d + 1) := by
  unfold lev
  rw [adj_mem]
  unfold cand
  rw [List.mem_map]
  constructor
  · rintro ⟨t, ht, e⟩
    rw [List.mem_filter] at ht
    exact ⟨t, ht.1, by simpa using ht.2, e.symm⟩
  · rintro ⟨t, ht, h, e⟩
    exact ⟨t, List.mem_filter.2 ⟨ht, by simpa using h⟩, e.symm⟩

theorem lev_length (d : Nat) (T : List ByteArray) (u : List UInt8) (h : u ∈ lev d T) : u.length = d + 1 := by
  obtain ⟨t, _, h1, rfl⟩ := (mem_lev d T u).1 h
  rw [List.length_take]; omega

theorem mem_below (M : Nat) (T : List ByteArray) (u : List UInt8) : u ∈ below M T ↔ ∃ d, d < M ∧ u ∈ lev d T := by
  unfold below
  rw [List.mem_flatMap]
  simp

theorem mem_pfs {M : Nat} {T : List ByteArray} (hM : ∀ t ∈ T, (tb t).length ≤ M) (u : List UInt8) : u ∈ pfs M T ↔ PP T u = true := by
  rw [PP_iff]
  unfold pfs
  rw [List.mem_cons, mem_below]
  constructor
  · rintro (h | ⟨d, hd, h⟩)
    · exact .inl h
    · obtain ⟨t, ht, h1, rfl⟩ := (mem_lev d T u).1 h
      exact .inr ⟨t, ht, List.take_prefix _ _⟩
  · rintro (h | ⟨t, ht, hp⟩)
    · exact .inl h
    · by_cases e : u = []
      · exact .inl e
      · right
        have hl : u.length ≠ 0 := fun h => e (List.length_eq_zero_iff.1 h)
        have hle := hp.length_le
        have := hM t ht
        refine ⟨u.length - 1, by omega, (mem_lev _ _ _).2 ⟨t, ht, by omega, ?_⟩⟩
        rw [show u.length - 1 + 1 = u.length from by omega]
        exact List.prefix_iff_eq_take.1 hp

theorem cand_sorted (d : Nat) (T : List ByteArray) (hs : T.Pairwise (fun a b => ltB (tb a) (tb b) = true)) : (cand d T).Pairwise (fun a b => ltB b a = false) := by
  unfold cand
  rw [List.pairwise_map]
  exact pw_of _ (fun a _ b _ h => take_mono _ _ _ h) (hs.filter _)

theorem lev_sorted (d : Nat) (T : List ByteArray) (hs : T.Pairwise (fun a b => ltB (tb a) (tb b) = true)) : (lev d T).Pairwise (fun a b => ltB a b = true) := adj_sorted _ (cand_sorted d T hs)

/-- Shorter first; of one length, in order. -/
def slt (u v : List UInt8) : Prop := u.length < v.length ∨ (u.length = v.length ∧ ltB u v = true)

theorem below_sorted (T : List ByteArray) (hs : T.Pairwise (fun a b => ltB (tb a) (tb b) = true)) : ∀ M, (below M T).Pairwise slt
  | 0 => by simp [below]
  | M + 1 => by
    rw [below_succ, List.pairwise_append]
    refine ⟨below_sorted T hs M, ?_, fun a ha b hb => ?_⟩
    · refine pw_of _ (fun a ha b hb h => .inr ⟨?_, h⟩) (lev_sorted M T hs)
      rw [lev_length M T a ha, lev_length M T b hb]
    · obtain ⟨d, hd, h⟩ := (mem_below M T a).1 ha
      left
      rw [lev_length d T a h, lev_length M T b hb]; omega

theorem pfs_sorted (M : Nat) (T : List ByteArray) (hs : T.Pairwise (fun a b => ltB (tb a) (tb b) = true)) : (pfs M T).Pairwise slt := by
  unfold pfs
  rw [List.pairwise_cons]
  refine ⟨fun a ha => ?_, below_sorted T hs M⟩
  obtain ⟨d, hd, h⟩ := (mem_below M T a).1 ha
  left
  rw [lev_length d T a h]; simp
end Go.Proofs.Qxb6001318a.Pl
