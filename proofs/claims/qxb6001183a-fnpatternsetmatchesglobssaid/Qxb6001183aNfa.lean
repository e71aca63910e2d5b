/-
  THE PLAIN LAW of the matcher over words: the run's last bit says what the matcher by rows says. No Go in sight.
-/
import Derived.Test.Qxb6001183aNoted
namespace Go.Proofs.Qxb6001183a
set_option linter.unusedSimpArgs false
set_option linter.unusedVariables false
namespace Pl

theorem nst_take_succ (p : List UInt8) (t : Nat) (h : t < p.length) : nst (p.take (t + 1)) = nst (p.take t) + (if p[t] == 42 then 0 else 1) := by
  rw [take_snoc p t h, nst_snoc]

theorem nst_take_mono (p : List UInt8) {s t : Nat} (h : s ≤ t) (ht : t ≤ p.length) : nst (p.take s) ≤ nst (p.take t) := by
  induction t with
  | zero => have : s = 0 := by omega
            subst this; exact Nat.le_refl _
  | succ t ih =>
    by_cases e : s = t + 1
    · subst e; exact Nat.le_refl _
    · have := ih (by omega) (by omega)
      rw [nst_take_succ p t (by omega)]
      omega

theorem mem_evs (c : UInt8) (b : Nat) (p : List UInt8) : ∀ n, n ≤ p.length → ∀ x, ((c, x) ∈ evs b (p.take n) ↔ ∃ s, ∃ h : s < p.length, s < n ∧ p[s] = c ∧ c ≠ 42 ∧ x = b + nst (p.take s) + 1) := by
  intro n
  induction n with
  | zero => intro _ x; simp [evs]
  | succ n ih =>
    intro hn x
    rw [take_snoc p n (by omega), evs_snoc, List.mem_append, ih (by omega) x]
    constructor
    · rintro (⟨s, h, h1, h2, h3, h4⟩ | h)
      · exact ⟨s, h, by omega, h2, h3, h4⟩
      · by_cases e : p[n] = 42
        · simp [e] at h
        · simp [e] at h
          exact ⟨n, by omega, by omega, h.1.symm, by rw [h.1]; exact e, h.2⟩
    · rintro ⟨s, h, h1, h2, h3, h4⟩
      by_cases e : s = n
      · subst e
        right
        rw [if_neg (by simp [h2, h3])]
        simp [h2, h4]
      · left; exact ⟨s, h, by omega, h2, h3, h4⟩

theorem mem_ys (b : Nat) (p : List UInt8) : ∀ n, n ≤ p.length → ∀ x, (x ∈ ys b (p.take n) ↔ ∃ s, ∃ h : s < p.length, s < n ∧ p[s] = 42 ∧ x = b + nst (p.take s)) := by
  intro n
  induction n with
  | zero => intro _ x; simp [ys]
  | succ n ih =>
    intro hn x
    rw [take_snoc p n (by omega), ys_snoc, List.mem_append, ih (by omega) x]
    constructor
    · rintro (⟨s, h, h1, h2, h4⟩ | h)
      · exact ⟨s, h, by omega, h2, h4⟩
      · by_cases e : p[n] = 42
        · simp [e] at h
          exact ⟨n, by omega, by omega, e, h⟩
        · simp [e] at h
    · rintro ⟨s, h, h1, h2, h4⟩
      by_cases e : s = n
      · subst e
        right
        rw [if_pos (by simp [h2])]
        simp [h4]
      · left; exact ⟨s, h, by omega, h2, h4⟩

/-- Over stars alone what is reached stays reached. -/
theorem D_stars (p s : List UInt8) (j t t' : Nat) (h : t ≤ t') (ht : t' ≤ p.length) (hj : j ≤ s.length) (hn : nst (p.take t) = nst (p.take t')) (hd : D p s t j = true) : D p s t' j = true := by
  induction t' with
  | zero => have : t = 0 := by omega
            subst this; exact hd
  | succ u ih =>
    by_cases e : t = u + 1
    · subst e; exact hd
    · have h1 := nst_take_mono p (show t ≤ u from by omega) (by omega)
      have h2 := nst_take_succ p u (by omega)
      have hst : p[u] = 42 := by
        by_cases e2 : p[u] = 42
        · exact e2
        · simp [e2] at h2; omega
      simp [hst] at h2
      have hd' := ih (by omega) (by omega) (by omega)
      cases j with
      | zero => rw [D_star_zero p s u (by omega) hst]; exact hd'
      | succ j => rw [D_star p s u j (by omega) (by omega) hst, hd']; rfl

/-- One step: what the loop over the words does to the set of bits. -/
def stepF (mv stay : Nat → Bool) (c : UInt8) (F : Nat → Bool) (b : Nat) : Bool := ((decide (0 < b) && F (b - 1)) && mv b) || (c != 47 && (F b && stay b))

/-- The set of bits behind the first m bytes. -/
def stp (mv : UInt8 → Nat → Bool) (stay start : Nat → Bool) (path : List UInt8) : Nat → Nat → Bool
  | 0 => start
  | m + 1 => match path[m]? with
    | none => stp mv stay start path m
    | some c => stepF (mv c) stay c (stp mv stay start path m)

theorem stp_succ (mv : UInt8 → Nat → Bool) (stay start : Nat → Bool) (path : List UInt8) (m : Nat) (h : m < path.length) : stp mv stay start path (m + 1) = stepF (mv path[m]) stay path[m] (stp mv stay start path m) := by
  show (match path[m]? with | none => _ | some c => _) = _
  rw [List.getElem?_eq_getElem h]

/-- What the tables say of one run: bits b0 .. b0 + nst p. -/
structure Run (mv : UInt8 → Nat → Bool) (stay start : Nat → Bool) (b0 : Nat) (p : List UInt8) : Prop where
  mv : ∀ c k, k ≤ nst p → (mv c (b0 + k) = true ↔ ∃ s, ∃ h : s < p.length, p[s] = c ∧ c ≠ 42 ∧ k = nst (p.take s) + 1)
  stay : ∀ k, k ≤ nst p → (stay (b0 + k) = true ↔ ∃ s, ∃ h : s < p.length, p[s] = 42 ∧ k = nst (p.take s))
  start : ∀ k, k ≤ nst p → (start (b0 + k) = true ↔ k = 0)

theorem D0 (p s : List UInt8) : ∀ t, t ≤ p.length → (D p s t 0 = true ↔ nst (p.take t) = 0) := by
  intro t
  induction t with
  | zero => intro _; rw [D_zero _ _ _ (by omega)]; simp [nst]
  | succ t ih =>
    intro ht
    rw [nst_take_succ p t (by omega)]
    by_cases e : p[t] = 42
    · rw [D_star_zero p s t (by omega) e, ih (by omega)]
      simp [e]
    · rw [D_ch_zero p s t (by omega) e]
      simp [e]

theorem run_bit {mv : UInt8 → Nat → Bool} {stay start : Nat → Bool} {b0 : Nat} {p : List UInt8} (h : Run mv stay start b0 p) (path : List UInt8) : ∀ m, m ≤ path.length → ∀ k, k ≤ nst p →
    (stp mv stay start path m (b0 + k) = true ↔ ∃ t, t ≤ p.length ∧ nst (p.take t) = k ∧ D p path t m = true) := by
  intro m
  induction m with
  | zero =>
    intro _ k hk
    refine (h.start k hk).trans ⟨?_, ?_⟩
    · rintro rfl
      exact ⟨0, Nat.zero_le _, by simp [nst], (D0 p path 0 (Nat.zero_le _)).2 (by simp [nst])⟩
    · rintro ⟨t, ht, h1, h2⟩
      rw [← h1]; exact (D0 p path t ht).1 h2
  | succ m ih =>
    intro hm k hk
    have hm' : m < path.length := by omega
    rw [stp_succ _ _ _ _ _ hm']
    have hstep : stepF (mv path[m]) stay path[m] (stp mv stay start path m) (b0 + k) = true ↔ ((0 < b0 + k ∧ stp mv stay start path m (b0 + k - 1) = true) ∧ mv path[m] (b0 + k) = true) ∨ (path[m] ≠ 47 ∧ stp mv stay start path m (b0 + k) = true ∧ stay (b0 + k) = true) := by
      unfold stepF; simp
    rw [hstep]
    constructor
    · rintro (⟨⟨h0, h1⟩, h2⟩ | ⟨h0, h1, h2⟩)
      · obtain ⟨s, hs, hc, h42, hks⟩ := (h.mv _ k hk).1 h2
        rw [show b0 + k - 1 = b0 + (k - 1) from by omega] at h1
        obtain ⟨t, ht, hn, hd⟩ := (ih (by omega) (k - 1) (by omega)).1 h1
        have hsk : nst (p.take (s + 1)) = k := by rw [nst_take_succ p s hs, if_neg (by simp [hc, h42])]; omega
        have hts : t ≤ s := by
          apply Classical.byContradiction
          intro hc2
          have := nst_take_mono p (show s + 1 ≤ t from by omega) ht
          omega
        refine ⟨s + 1, by omega, hsk, ?_⟩
        rw [D_ch p path s m hs hm' (by rw [hc]; exact h42), D_stars p path m t s hts (by omega) (by omega) (by omega) hd]
        simp [hc]
      · obtain ⟨s, hs, hc, hks⟩ := (h.stay k hk).1 h2
        obtain ⟨t, ht, hn, hd⟩ := (ih (by omega) k hk).1 h1
        have hsk : nst (p.take (s + 1)) = k := by rw [nst_take_succ p s hs, if_pos (by simp [hc])]; omega
        by_cases hts : t ≤ s + 1
        · refine ⟨s + 1, by omega, hsk, ?_⟩
          rw [D_star p path s m hs hm' hc, D_stars p path m t (s + 1) hts (by omega) (by omega) (by omega) hd]
          simp [h0]
        · obtain ⟨u, rfl⟩ : ∃ u, t = u + 1 := ⟨t - 1, by omega⟩
          have h3 := nst_take_mono p (show s + 1 ≤ u from by omega) (by omega)
          have h4 := nst_take_succ p u (by omega)
          have hst : p[u] = 42 := by
            by_cases e2 : p[u] = 42
            · exact e2
            · simp [e2] at h4; omega
          refine ⟨u + 1, ht, hn, ?_⟩
          rw [D_star p path u m (by omega) hm' hst, hd]
          simp [h0]
    · rintro ⟨t, ht, hn, hd⟩
      induction t with
      | zero => rw [D_zero _ _ _ (by omega)] at hd; simp at hd
      | succ t iht =>
        have h4 := nst_take_succ p t (by omega)
        by_cases e : p[t] = 42
        · simp [e] at h4
          rw [D_star p path t m (by omega) hm' e] at hd
          simp only [Bool.or_eq_true, Bool.and_eq_true, bne_iff_ne, ne_eq] at hd
          rcases hd with hd | ⟨h0, hd⟩
          · exact iht (by omega) (by omega) hd
          · exact .inr ⟨h0, (ih (by omega) k hk).2 ⟨t + 1, ht, hn, hd⟩, (h.stay k hk).2 ⟨t, by omega, e, by omega⟩⟩
        · simp [e] at h4
          rw [D_ch p path t m (by omega) hm' e] at hd
          simp only [Bool.and_eq_true, beq_iff_eq] at hd
          refine .inl ⟨⟨by omega, ?_⟩, (h.mv _ k hk).2 ⟨t, by omega, hd.2.symm, by rw [hd.2]; exact e, by omega⟩⟩
          rw [show b0 + k - 1 = b0 + (k - 1) from by omega]
          exact (ih (by omega) (k - 1) (by omega)).2 ⟨t, by omega, by omega, hd.1⟩

theorem run_last {mv : UInt8 → Nat → Bool} {stay start : Nat → Bool} {b0 : Nat} {p : List UInt8} (h : Run mv stay start b0 p) (path : List UInt8) : stp mv stay start path path.length (b0 + nst p) = glob p path := by
  rw [Bool.eq_iff_iff, run_bit h path _ (Nat.le_refl _) _ (Nat.le_refl _), ← D_all]
  constructor
  · rintro ⟨t, ht, hn, hd⟩
    exact D_stars p path _ t p.length ht (Nat.le_refl _) (Nat.le_refl _) (by rw [List.take_length]; exact hn) hd
  · intro hd
    exact ⟨p.length, Nat.le_refl _, by rw [List.take_length], hd⟩
end Pl

theorem mem_Eall (S : Nat → ByteArray) (e : UInt8 × Nat) : ∀ N, (e ∈ Eall S N ↔ ∃ i, i < N ∧ e ∈ Pl.evs (fstB S i) (pat S i))
  | 0 => by simp [Eall]
  | N + 1 => by
    rw [Eall, List.mem_append, mem_Eall S e N]
    constructor
    · rintro (⟨i, h1, h2⟩ | h)
      · exact ⟨i, by omega, h2⟩
      · exact ⟨N, by omega, h⟩
    · rintro ⟨i, h1, h2⟩
      by_cases e : i = N
      · subst e; exact .inr h2
      · exact .inl ⟨i, by omega, h2⟩
theorem mem_Yall (S : Nat → ByteArray) (e : Nat) : ∀ N, (e ∈ Yall S N ↔ ∃ i, i < N ∧ e ∈ Pl.ys (fstB S i) (pat S i))
  | 0 => by simp [Yall]
  | N + 1 => by
    rw [Yall, List.mem_append, mem_Yall S e N]
    constructor
    · rintro (⟨i, h1, h2⟩ | h)
      · exact ⟨i, by omega, h2⟩
      · exact ⟨N, by omega, h⟩
    · rintro ⟨i, h1, h2⟩
      by_cases e : i = N
      · subst e; exact .inr h2
      · exact .inl ⟨i, by omega, h2⟩
theorem mem_Tall (S : Nat → ByteArray) (e : Nat) : ∀ N, (e ∈ Tall S N ↔ ∃ i, i < N ∧ e = fstB S i)
  | 0 => by simp [Tall]
  | N + 1 => by
    rw [Tall, List.mem_append, mem_Tall S e N]
    constructor
    · rintro (⟨i, h1, h2⟩ | h)
      · exact ⟨i, by omega, h2⟩
      · exact ⟨N, by omega, by simpa using h⟩
    · rintro ⟨i, h1, h2⟩
      by_cases e : i = N
      · subst e; exact .inr (by simpa using h2)
      · exact .inl ⟨i, by omega, h2⟩

/-- Two runs that share a bit are one. -/
theorem same_run (S : Nat → ByteArray) {i j b : Nat} (h1 : fstB S i ≤ b) (h2 : b ≤ lstB S i) (h3 : fstB S j ≤ b) (h4 : b ≤ lstB S j) : i = j := by
  rcases Nat.lt_trichotomy i j with h | h | h
  · have := fstB_mono S h; omega
  · exact h
  · have := fstB_mono S h; omega

theorem lstB_nst (S : Nat → ByteArray) (i : Nat) : lstB S i = fstB S i + Pl.nst (pat S i) := by rw [lstB, ns_eq]

theorem run_of {S : Nat → ByteArray} {N : Nat} {cls : Nat → Nat} {nm : Nat} (hci : Pl.CI cls nm (Eall S N)) {i : Nat} (hi : i < N) :
    Pl.Run (fun c b => Pl.FF cls (Eall S N) (Yall S N) (Tall S N) (Nall S N) (3 + cls c.toNat) b) (Pl.FF cls (Eall S N) (Yall S N) (Tall S N) (Nall S N) 0) (Pl.FF cls (Eall S N) (Yall S N) (Tall S N) (Nall S N) 1) (fstB S i) (pat S i) := by
  have hl := lstB_nst S i
  refine ⟨fun c k hk => ?_, fun k hk => ?_, fun k hk => ?_⟩
  · have e1 : Pl.FF cls (Eall S N) (Yall S N) (Tall S N) (Nall S N) (3 + cls c.toNat) (fstB S i + k) = true ↔ (c, fstB S i + k) ∈ Eall S N := by
      rw [show 3 + cls c.toNat = cls c.toNat + 3 from by omega, Pl.FF_any, List.any_eq_true]
      constructor
      · rintro ⟨⟨d, b⟩, he, hb⟩
        simp only [Bool.and_eq_true, beq_iff_eq] at hb
        have hd0 : cls d.toNat ≠ 0 := by
          by_cases e : d = 47
          · subst e; have := hci.slash; show cls 47 ≠ 0; omega
          · exact (hci.met d e).2 ⟨b, he⟩
        have := hci.inj d c hd0 (by omega)
        subst this
        rw [← hb.1]; exact he
      · intro he
        exact ⟨_, he, by simp⟩
    refine e1.trans ?_
    rw [mem_Eall]
    have hev := fun x => Pl.mem_evs c (fstB S i) (pat S i) (pat S i).length (Nat.le_refl _) x
    rw [List.take_length] at hev
    constructor
    · rintro ⟨j, hj, he⟩
      have hr := Pl.evs_range _ _ _ he
      have hlj := lstB_nst S j
      have := same_run S (i := i) (j := j) (b := fstB S i + k) (by omega) (by omega) (by simp at hr; omega) (by simp at hr; omega)
      subst this
      obtain ⟨s, h, _, h1, h2, h3⟩ := (hev _).1 he
      exact ⟨s, h, h1, h2, by omega⟩
    · rintro ⟨s, h, h1, h2, h3⟩
      exact ⟨i, hi, (hev _).2 ⟨s, h, h, h1, h2, by omega⟩⟩
  · have e1 : Pl.FF cls (Eall S N) (Yall S N) (Tall S N) (Nall S N) 0 (fstB S i + k) = true ↔ fstB S i + k ∈ Yall S N := by
      unfold Pl.FF; simp
    refine e1.trans ?_
    rw [mem_Yall]
    have hev := fun x => Pl.mem_ys (fstB S i) (pat S i) (pat S i).length (Nat.le_refl _) x
    rw [List.take_length] at hev
    constructor
    · rintro ⟨j, hj, he⟩
      have hr := Pl.ys_range _ _ _ he
      have hlj := lstB_nst S j
      have := same_run S (i := i) (j := j) (b := fstB S i + k) (by omega) (by omega) (by omega) (by omega)
      subst this
      obtain ⟨s, h, _, h1, h3⟩ := (hev _).1 he
      exact ⟨s, h, h1, by omega⟩
    · rintro ⟨s, h, h1, h3⟩
      exact ⟨i, hi, (hev _).2 ⟨s, h, h, h1, by omega⟩⟩
  · have e1 : Pl.FF cls (Eall S N) (Yall S N) (Tall S N) (Nall S N) 1 (fstB S i + k) = true ↔ fstB S i + k ∈ Tall S N := by
      unfold Pl.FF; simp
    refine e1.trans ?_
    rw [mem_Tall]
    constructor
    · rintro ⟨j, hj, he⟩
      have hlj := lstB_nst S j
      have := same_run S (i := i) (j := j) (b := fstB S i + k) (by omega) (by omega) (by omega) (by omega)
      subst this
      omega
    · rintro rfl
      exact ⟨i, hi, by omega⟩
end Go.Proofs.Qxb6001183a
