/-
  LINKS, OUTS AND THE ROOT'S ROW: what holds of them. No Go in sight.
-/
import Derived.Test.Qxb6001318aLayPlain
namespace Go.Proofs.Qxb6001318a.Pl
set_option linter.unusedSimpArgs false
set_option linter.unusedVariables false

section
variable {T : List ByteArray} {L : List (List UInt8)} {par : Nat → Nat} {lab : Nat → UInt8}

/-- The links of the first m states are right. -/
def FailOK (T : List ByteArray) (L : List (List UInt8)) (F : Nat → Nat) (m : Nat) : Prop := ∀ t, t < m → F t < L.length ∧ pf L (F t) = flink (PP T) (pf L t)

theorem pre_PP (T : List ByteArray) : ∀ u v, PP T (u ++ v) = true → PP T u = true := PP_prefix T

theorem Trie.len_lt (h : Trie T L par lab) {s t : Nat} (hs : s < L.length) (hl : (pf L s).length < (pf L t).length) : s < t := by
  apply Classical.byContradiction
  intro hc
  have := pf_len h.sorted (show t ≤ s by omega) hs
  omega

theorem Trie.ne_nil (h : Trie T L par lab) {s : Nat} (h0 : s ≠ 0) (hs : s < L.length) : pf L s ≠ [] := fun e => h0 (h.zero hs e)

theorem FailOK.lt (h : Trie T L par lab) {F : Nat → Nat} {m : Nat} (hF : FailOK T L F m) {t : Nat} (ht : t < m) (h0 : t ≠ 0) (hl : t < L.length) : F t < t := by
  obtain ⟨h1, h2⟩ := hF t ht
  refine h.len_lt h1 ?_
  rw [h2]
  exact flink_short _ (h.ne_nil h0 hl)

theorem FailOK.start (h : Trie T L par lab) (F : Nat → Nat) (h0 : F 0 = 0) : FailOK T L F 1 := by
  intro t ht
  have : t = 0 := by omega
  subst this
  rw [h0, h.root]
  exact ⟨h.pos, rfl⟩

theorem FailOK.step {F : Nat → Nat} {s r : Nat} (hF : FailOK T L F s) (hr : r < L.length) (hp : pf L r = flink (PP T) (pf L s)) : FailOK T L (fun i => if i = s then r else F i) (s + 1) := by
  intro t ht
  by_cases e : t = s
  · subst e; simp only [if_true]; exact ⟨hr, hp⟩
  · simp only [if_neg e]; exact hF t (by omega)

/-- A child of the root. -/
theorem Trie.flink_top (h : Trie T L par lab) {s : Nat} (h0 : 0 < s) (hs : s < L.length) (hp : par s = 0) : flink (PP T) (pf L s) = [] := by
  rw [(h.par s h0 hs).2, hp, h.root]; rfl

/-- Any other state: go on from its parent's link. -/
theorem Trie.flink_of (h : Trie T L par lab) {s : Nat} (h0 : 0 < s) (hs : s < L.length) (hp : par s ≠ 0) : flink (PP T) (pf L s) = lsuf (PP T) (flink (PP T) (pf L (par s)) ++ [lab s]) := by
  obtain ⟨p1, e1⟩ := h.par s h0 hs
  rw [e1]
  have hne := h.ne_nil hp (by omega)
  unfold flink
  rw [← lsuf_step (PP_nil T) (pre_PP T), List.tail_append_of_ne_nil hne]

theorem Trie.hit (h : Trie T L par lab) {k : Nat} (hk : k < L.length) {u : List UInt8} {c : UInt8} (e : pf L k = u ++ [c]) : pf L k = lsuf (PP T) (u ++ [c]) := by
  rw [next_hit u c (by rw [← e]; exact h.P hk), e]

/-- What child answers, by the states' texts. -/
theorem Trie.kids (h : Trie T L par lab) {s : Nat} (hs : s < L.length) (c : UInt8) :
    (∀ j, fstC par L.length s ≤ j → j < fstC par L.length (s + 1) → lab j = c → j < L.length ∧ pf L j = pf L s ++ [c]) ∧
    ((∀ j, fstC par L.length s ≤ j → j < fstC par L.length (s + 1) → lab j ≠ c) → ¬ PP T (pf L s ++ [c]) = true) := by
  constructor
  · intro j h1 h2 h3
    obtain ⟨g1, g2, g3⟩ := h.first.1 ⟨h1, h2⟩
    exact ⟨g2, (h.child hs g1 g2).1 ⟨g3, h3⟩⟩
  · intro hno hP
    obtain ⟨j, hj, e⟩ := h.ex hP
    have hj0 : 0 < j := by
      apply Nat.pos_of_ne_zero
      intro e0
      rw [e0, h.root] at e
      simp at e
    obtain ⟨g1, g2⟩ := (h.child hs hj0 hj).2 e
    obtain ⟨k1, k2⟩ := h.first.2 ⟨hj0, hj, g1⟩
    exact hno j k1 k2 g2

theorem Trie.first_le (h : Trie T L par lab) (s : Nat) : fstC par L.length s ≤ fstC par L.length (s + 1) ∧ fstC par L.length (s + 1) ≤ L.length := by
  unfold fstC
  rw [cntP_succ]
  have h1 := cntP_le par (s + 1) L.length
  rw [cntP_succ] at h1
  have := h.pos
  omega

theorem Trie.kids_asc (h : Trie T L par lab) (s i j : Nat) (h1 : fstC par L.length s ≤ i) (h2 : i < j) (h3 : j < fstC par L.length (s + 1)) : (lab i).toNat < (lab j).toNat := by
  obtain ⟨a1, a2, a3⟩ := h.first.1 ⟨h1, by omega⟩
  obtain ⟨b1, b2, b3⟩ := h.first.1 ⟨(by omega : fstC par L.length s ≤ j), h3⟩
  exact h.asc a1 h2 b2 (a3.trans b3.symm)

/-- An out as it lies in its cell. -/
def oi : Option Nat → Int
  | none => -1
  | some d => (d : Int)

/-- The outs of the first m states are final, the others are their own. -/
structure OutOK (T : List ByteArray) (L : List (List UInt8)) (out O : Nat → Int) (m : Nat) : Prop where
  fin : ∀ t, t < m → ∃ o, IsOut T (pf L t) o ∧ O t = oi o
  raw : ∀ t, m ≤ t → O t = out t

theorem OutOK.start (h : Trie T L par lab) {out : Nat → Int} (ho : ∀ s, s < L.length → (∃ i, i < T.length ∧ Txt T i = pf L s ∧ out s = (i : Int)) ∨ (out s = -1 ∧ ∀ i, i < T.length → Txt T i ≠ pf L s)) : OutOK T L out out 1 := by
  refine ⟨fun t ht => ?_, fun _ _ => rfl⟩
  have e : t = 0 := by omega
  subst e
  rcases ho 0 h.pos with ⟨i, h1, h2, h3⟩ | ⟨h1, h2⟩
  · exact ⟨some i, isOut_own h1 h2, h3⟩
  · refine ⟨none, fun e he hsuf => ?_, h1⟩
    rw [h.root, List.suffix_nil] at hsuf
    exact h2 e he (by rw [h.root]; exact hsuf)

theorem OutOK.own {out O : Nat → Int} {s : Nat} (hO : OutOK T L out O s) {i : Nat} (h1 : i < T.length) (h2 : Txt T i = pf L s) (h3 : O s = (i : Int)) : OutOK T L out O (s + 1) := by
  refine ⟨fun t ht => ?_, fun t ht => hO.raw t (by omega)⟩
  by_cases e : t = s
  · subst e; exact ⟨some i, isOut_own h1 h2, h3⟩
  · exact hO.fin t (by omega)

theorem OutOK.link {out O : Nat → Int} {F : Nat → Nat} {s : Nat} (hO : OutOK T L out O s) (h2 : ∀ i, i < T.length → Txt T i ≠ pf L s) (hf : F s < s) (hF : pf L (F s) = flink (PP T) (pf L s)) : OutOK T L out (fun i => if i = s then O (F s) else O i) (s + 1) := by
  refine ⟨fun t ht => ?_, fun t ht => ?_⟩
  · by_cases e : t = s
    · subst e
      obtain ⟨o, g1, g2⟩ := hO.fin (F t) hf
      rw [hF] at g1
      exact ⟨o, isOut_link h2 g1, by simp [g2]⟩
    · simp only [if_neg e]; exact hO.fin t (by omega)
  · have e : t ≠ s := by omega
    simp only [if_neg e]; exact hO.raw t (by omega)

/-- The root's row, the first m bytes of it. -/
def RootOK (T : List ByteArray) (L : List (List UInt8)) (R : Nat → Nat) (m : Nat) : Prop := ∀ c : UInt8, c.toNat < m → R c.toNat < L.length ∧ pf L (R c.toNat) = lsuf (PP T) ([] ++ [c])

theorem RootOK.step {R : Nat → Nat} {c : UInt8} {k : Nat} (hR : RootOK T L R c.toNat) (hk : k < L.length) (hp : pf L k = lsuf (PP T) ([] ++ [c])) : RootOK T L (fun i => if i = c.toNat then k else R i) (c.toNat + 1) := by
  intro d hd
  by_cases e : d = c
  · subst e; simp only [if_true]; exact ⟨hk, hp⟩
  · have e' : d.toNat ≠ c.toNat := fun h => e (UInt8.toNat_inj.1 h)
    simp only [if_neg e']; exact hR d (by omega)
end

/-- What a built Matcher holds. -/
structure MI (T : List ByteArray) (L : List (List UInt8)) (par : Nat → Nat) (lab : Nat → UInt8) (F : Nat → Nat) (O : Nat → Int) (R en : Nat → Nat) : Prop where
  trie : Trie T L par lab
  fail : FailOK T L F L.length
  out : ∀ t, t < L.length → ∃ o, IsOut T (pf L t) o ∧ O t = oi o
  root : RootOK T L R 256
  en : ∀ i, i < T.length → en i < L.length ∧ pf L (en i) = Txt T i
end Go.Proofs.Qxb6001318a.Pl
