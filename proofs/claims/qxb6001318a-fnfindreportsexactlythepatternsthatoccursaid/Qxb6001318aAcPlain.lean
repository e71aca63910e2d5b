/-
  THE PLAIN LAWS of the automaton of Aho and Corasick. No Go in sight.
-/
import Derived.Test.Qxb6001318aDistPlain
namespace Go.Proofs.Qxb6001318a.Pl
set_option linter.unusedSimpArgs false
set_option linter.unusedVariables false

/-- A beginning of a text, or the empty one. -/
def PP (T : List ByteArray) (u : List UInt8) : Bool := u.isEmpty || T.any fun t => u.isPrefixOf (tb t)

theorem PP_nil (T : List ByteArray) : PP T [] = true := rfl

theorem PP_iff (T : List ByteArray) (u : List UInt8) : PP T u = true ↔ u = [] ∨ ∃ t ∈ T, u <+: tb t := by
  unfold PP
  rw [Bool.or_eq_true, List.any_eq_true]
  simp only [List.isEmpty_iff, List.isPrefixOf_iff_prefix]

theorem PP_prefix (T : List ByteArray) (u v : List UInt8) (h : PP T (u ++ v) = true) : PP T u = true := by
  rw [PP_iff] at h ⊢
  rcases h with h | ⟨t, ht, hp⟩
  · exact .inl (List.append_eq_nil_iff.1 h).1
  · exact .inr ⟨t, ht, (List.prefix_append u v).trans hp⟩

/-- The longest suffix that is a state. -/
def lsuf (P : List UInt8 → Bool) : List UInt8 → List UInt8
  | [] => []
  | c :: w => if P (c :: w) then c :: w else lsuf P w

section
variable {P : List UInt8 → Bool}

theorem lsuf_suffix (w : List UInt8) : lsuf P w <:+ w := by
  induction w with
  | nil => exact List.suffix_refl _
  | cons c w ih =>
    rw [lsuf]
    split
    · exact List.suffix_refl _
    · exact ih.trans (List.suffix_cons c w)

theorem lsuf_P (h0 : P [] = true) (w : List UInt8) : P (lsuf P w) = true := by
  induction w with
  | nil => exact h0
  | cons c w ih =>
    rw [lsuf]
    split
    · assumption
    · exact ih

theorem lsuf_max (w v : List UInt8) (hv : v <:+ w) (hp : P v = true) : v <:+ lsuf P w := by
  induction w with
  | nil => rw [List.suffix_nil] at hv; subst hv; exact List.suffix_refl _
  | cons c w ih =>
    rw [lsuf]
    split
    · exact hv
    · rename_i hc
      rcases List.suffix_cons_iff.1 hv with h | h
      · subst h; exact absurd hp hc
      · exact ih h

theorem lsuf_self (w : List UInt8) (hp : P w = true) : lsuf P w = w := by
  cases w with
  | nil => rfl
  | cons c w => rw [lsuf, if_pos hp]

theorem suffix_antisymm {a b : List UInt8} (h1 : a <:+ b) (h2 : b <:+ a) : a = b :=
  List.IsSuffix.eq_of_length h1 (Nat.le_antisymm h1.length_le h2.length_le)

theorem suffix_snoc {v w : List UInt8} (c : UInt8) (h : v <:+ w) : v ++ [c] <:+ w ++ [c] := by
  obtain ⟨u, rfl⟩ := h
  exact ⟨u, by simp⟩

theorem suffix_of_snoc {a w : List UInt8} {c : UInt8} (h : a <:+ w ++ [c]) : a = [] ∨ ∃ v, a = v ++ [c] ∧ v <:+ w := by
  obtain ⟨u, hu⟩ := h
  rcases List.eq_nil_or_concat a with e | ⟨v, x, e⟩
  · exact .inl e
  · right
    subst e
    have : (u ++ v) ++ [x] = w ++ [c] := by rw [← hu]; simp
    have h1 := List.append_inj' this rfl
    have hx : x = c := by simpa using h1.2
    subst hx
    exact ⟨v, by simp, u, h1.1⟩

theorem lsuf_step (h0 : P [] = true) (hpre : ∀ u v, P (u ++ v) = true → P u = true) (w : List UInt8) (c : UInt8) : lsuf P (w ++ [c]) = lsuf P (lsuf P w ++ [c]) := by
  apply suffix_antisymm
  · rcases suffix_of_snoc (lsuf_suffix (P := P) (w ++ [c])) with e | ⟨v, e, hv⟩
    · rw [e]; exact List.nil_suffix
    · apply lsuf_max
      · rw [e]
        exact suffix_snoc c (lsuf_max w v hv (hpre v [c] (by rw [← e]; exact lsuf_P h0 _)))
      · exact lsuf_P h0 _
  · apply lsuf_max
    · exact (lsuf_suffix _).trans (suffix_snoc c (lsuf_suffix w))
    · exact lsuf_P h0 _

/-- The failure link. -/
def flink (P : List UInt8 → Bool) (u : List UInt8) : List UInt8 := lsuf P u.tail

theorem next_hit (u : List UInt8) (c : UInt8) (h : P (u ++ [c]) = true) : lsuf P (u ++ [c]) = u ++ [c] := lsuf_self _ h

theorem next_miss (h0 : P [] = true) (hpre : ∀ u v, P (u ++ v) = true → P u = true) (u : List UInt8) (c : UInt8) (hu : u ≠ []) (h : ¬ P (u ++ [c]) = true) : lsuf P (u ++ [c]) = lsuf P (flink P u ++ [c]) := by
  cases u with
  | nil => exact absurd rfl hu
  | cons a u =>
    have h' : ¬ P (a :: (u ++ [c])) = true := h
    show (if P (a :: (u ++ [c])) then _ else lsuf P (u ++ [c])) = _
    rw [if_neg h']
    exact lsuf_step h0 hpre u c

theorem next_root (c : UInt8) (h : ¬ P [c] = true) : lsuf P ([] ++ [c]) = [] := by
  show (if P [c] then _ else lsuf P []) = _
  rw [if_neg h]; rfl

theorem flink_short (u : List UInt8) (hu : u ≠ []) : (flink P u).length < u.length := by
  have h := (lsuf_suffix (P := P) u.tail).length_le
  have : u.length ≠ 0 := fun e => hu (List.length_eq_zero_iff.1 e)
  rw [List.length_tail] at h
  unfold flink
  omega

theorem flink_suffix (u : List UInt8) : flink P u <:+ u := (lsuf_suffix _).trans (List.tail_suffix u)

/-- A shorter suffix that is a state is one of the failure link's. -/
theorem flink_max (u v : List UInt8) (hv : v <:+ u) (hne : v ≠ u) (hp : P v = true) : v <:+ flink P u := by
  cases u with
  | nil => rw [List.suffix_nil] at hv; exact absurd hv hne
  | cons a u =>
    rcases List.suffix_cons_iff.1 hv with h | h
    · exact absurd h hne
    · exact lsuf_max u v h hp
end

/-! ### The longest pattern that is a suffix -/

/-- The number of a text. -/
def ix (T : List ByteArray) (u : List UInt8) : Option Nat := (List.range T.length).find? fun d => tb (T.getD d ⟨#[]⟩) == u

def Txt (T : List ByteArray) (d : Nat) : List UInt8 := tb (T.getD d ⟨#[]⟩)

/-- The texts are distinct. -/
theorem txt_inj {T : List ByteArray} (h : T.Pairwise (fun a b => ltB (tb a) (tb b) = true)) {d e : Nat} (hd : d < T.length) (he : e < T.length) (heq : Txt T d = Txt T e) : d = e := by
  unfold Txt at heq
  rw [List.getD_eq_getElem?_getD, List.getElem?_eq_getElem hd, List.getD_eq_getElem?_getD, List.getElem?_eq_getElem he] at heq
  simp only [Option.getD_some] at heq
  rw [List.pairwise_iff_getElem] at h
  rcases Nat.lt_trichotomy d e with h1 | h1 | h1
  · have := h d e hd he h1
    rw [heq, ltB_irrefl] at this; cases this
  · exact h1
  · have := h e d he hd h1
    rw [heq, ltB_irrefl] at this; cases this

theorem txt_P {T : List ByteArray} {d : Nat} (hd : d < T.length) {u : List UInt8} (hu : u <+: Txt T d) : PP T u = true := by
  rw [PP_iff]
  right
  unfold Txt at hu
  rw [List.getD_eq_getElem?_getD, List.getElem?_eq_getElem hd] at hu
  exact ⟨T[d], List.getElem_mem hd, hu⟩

/-- d is the longest text that is a suffix of u; none: no text is. -/
def IsOut (T : List ByteArray) (u : List UInt8) (o : Option Nat) : Prop :=
  match o with
  | none => ∀ e, e < T.length → ¬ Txt T e <:+ u
  | some d => d < T.length ∧ Txt T d <:+ u ∧ ∀ e, e < T.length → Txt T e <:+ u → Txt T e <:+ Txt T d

theorem isOut_own {T : List ByteArray} {u : List UInt8} {d : Nat} (hd : d < T.length) (hu : Txt T d = u) : IsOut T u (some d) := ⟨hd, by rw [hu]; exact List.suffix_refl _, fun e _ h => by rw [hu]; exact h⟩

theorem isOut_link {T : List ByteArray} {u : List UInt8} {o : Option Nat} (hno : ∀ d, d < T.length → Txt T d ≠ u) (ho : IsOut T (flink (PP T) u) o) : IsOut T u o := by
  have key : ∀ e, e < T.length → Txt T e <:+ u → Txt T e <:+ flink (PP T) u := fun e he h => flink_max u _ h (hno e he) (txt_P he (List.prefix_refl _))
  cases o with
  | none => intro e he h; exact ho e he (key e he h)
  | some d => exact ⟨ho.1, ho.2.1.trans (flink_suffix u), fun e he h => ho.2.2 e he (key e he h)⟩

/-- The same text ends in w as in its longest state. -/
theorem isOut_lsuf {T : List ByteArray} {w : List UInt8} {e : Nat} (he : e < T.length) : Txt T e <:+ w ↔ Txt T e <:+ lsuf (PP T) w :=
  ⟨fun h => lsuf_max w _ h (txt_P he (List.prefix_refl _)), fun h => h.trans (lsuf_suffix w)⟩

/-- p occurs in w: it ends somewhere. -/
theorem occ_take (p t : List UInt8) : occ p t = true ↔ ∃ j, j ≤ t.length ∧ p <:+ t.take j := by
  rw [occ_iff]
  constructor
  · rintro ⟨u, v, h⟩
    refine ⟨u.length + p.length, by rw [← h]; simp, u, ?_⟩
    rw [← h, List.take_append_of_le_length (by simp), List.take_of_length_le (by simp)]
  · rintro ⟨j, hj, u, h⟩
    exact ⟨u, t.drop j, by rw [h, List.take_append_drop]⟩
end Go.Proofs.Qxb6001318a.Pl
