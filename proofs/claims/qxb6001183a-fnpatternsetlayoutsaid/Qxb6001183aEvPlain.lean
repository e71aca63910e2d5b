/-
  PLAIN: what newPatternSet notes of its patterns: which byte leads to which bit, which bits a star follows; the classes of bytes. No Go in sight.
-/
namespace Go.Proofs.Qxb6001183a.Pl

/-- Each byte that is no star leads to the next bit. -/
def evs (b : Nat) : List UInt8 → List (UInt8 × Nat)
  | [] => []
  | c :: p => if c == 42 then evs b p else (c, b + 1) :: evs (b + 1) p
/-- The bits that a star follows. -/
def ys (b : Nat) : List UInt8 → List Nat
  | [] => []
  | c :: p => if c == 42 then b :: ys b p else ys (b + 1) p
/-- How many bytes are no star. -/
def nst : List UInt8 → Nat
  | [] => 0
  | c :: p => if c == 42 then nst p else nst p + 1

theorem evs_snoc (c : UInt8) : ∀ (p : List UInt8) (b : Nat), evs b (p ++ [c]) = evs b p ++ (if c == 42 then [] else [(c, b + nst p + 1)])
  | [], b => by simp [evs, nst]
  | d :: p, b => by
    simp only [List.cons_append, evs, nst]
    by_cases h : (d == 42) = true
    · simp only [h, if_true]; rw [evs_snoc c p b]
    · simp only [h, Bool.false_eq_true, if_false]; rw [evs_snoc c p (b + 1), List.cons_append]
      rw [show b + (nst p + 1) + 1 = b + 1 + nst p + 1 from by omega]
theorem ys_snoc (c : UInt8) : ∀ (p : List UInt8) (b : Nat), ys b (p ++ [c]) = ys b p ++ (if c == 42 then [b + nst p] else [])
  | [], b => by simp [ys, nst]
  | d :: p, b => by
    simp only [List.cons_append, ys, nst]
    by_cases h : (d == 42) = true
    · simp only [h, if_true]; rw [ys_snoc c p b, List.cons_append]
    · simp only [h, Bool.false_eq_true, if_false]; rw [ys_snoc c p (b + 1)]
      rw [show b + (nst p + 1) = b + 1 + nst p from by omega]
theorem nst_snoc (c : UInt8) : ∀ (p : List UInt8), nst (p ++ [c]) = nst p + (if c == 42 then 0 else 1)
  | [] => by simp [nst]
  | d :: p => by
    simp only [List.cons_append, nst]
    by_cases h : (d == 42) = true
    · simp only [h, if_true]; exact nst_snoc c p
    · simp only [h, Bool.false_eq_true, if_false]; rw [nst_snoc c p]; omega

theorem evs_star (b : Nat) (p : List UInt8) : ∀ e ∈ evs b p, e.1 ≠ 42 := by
  induction p generalizing b with
  | nil => intro e he; cases he
  | cons c p ih =>
    intro e he
    simp only [evs] at he
    by_cases h : (c == 42) = true
    · simp only [h, if_true] at he; exact ih b e he
    · simp only [h, Bool.false_eq_true, if_false, List.mem_cons] at he
      rcases he with rfl | he
      · simpa using h
      · exact ih (b + 1) e he

theorem evs_range (b : Nat) (p : List UInt8) : ∀ e ∈ evs b p, b < e.2 ∧ e.2 ≤ b + nst p := by
  induction p generalizing b with
  | nil => intro e he; cases he
  | cons c p ih =>
    intro e he
    simp only [evs, nst] at he ⊢
    by_cases h : (c == 42) = true
    · simp only [h, if_true] at he ⊢; exact ih b e he
    · simp only [h, Bool.false_eq_true, if_false, List.mem_cons] at he ⊢
      rcases he with rfl | he
      · exact ⟨by simp, by simp⟩
      · have := ih (b + 1) e he; omega

theorem ys_range (b : Nat) (p : List UInt8) : ∀ y ∈ ys b p, b ≤ y ∧ y ≤ b + nst p := by
  induction p generalizing b with
  | nil => intro e he; cases he
  | cons c p ih =>
    intro e he
    simp only [ys, nst] at he ⊢
    by_cases h : (c == 42) = true
    · simp only [h, if_true, List.mem_cons] at he ⊢
      rcases he with rfl | he
      · omega
      · exact ih b e he
    · simp only [h, Bool.false_eq_true, if_false] at he ⊢
      have := ih (b + 1) e he; omega

/-- The rows of bits: 0: stays, 1: starts, 2: ends, 3 + k: the moves of kind k. -/
def FF (cls : Nat → Nat) (E : List (UInt8 × Nat)) (Y T N : List Nat) (x b : Nat) : Bool :=
  if x = 0 then Y.contains b else if x = 1 then T.contains b else if x = 2 then N.contains b else E.any (fun e => e.2 == b && cls e.1.toNat + 3 == x)

/-- 'kind' with c given the kind k. -/
def setCls (cls : Nat → Nat) (c k : Nat) : Nat → Nat := fun x => if x = c then k else cls x

/-- How many bytes have a kind of their own. -/
def own (cls : Nat → Nat) : Nat → Nat
  | 0 => 0
  | n + 1 => own cls n + (if n ≠ 47 ∧ cls n ≠ 0 then 1 else 0)

theorem own_le (cls : Nat → Nat) : ∀ n, own cls n ≤ n
  | 0 => Nat.le_refl _
  | n + 1 => by have := own_le cls n; unfold own; split <;> omega

theorem own_set (cls : Nat → Nat) (c k : Nat) (hc : c ≠ 47) (h0 : cls c = 0) (hk : k ≠ 0) : ∀ n, own (setCls cls c k) n = own cls n + (if c < n then 1 else 0)
  | 0 => by simp [own]
  | n + 1 => by
    unfold own
    rw [own_set cls c k hc h0 hk n]
    by_cases e : n = c
    · subst e
      simp [setCls, hc, hk, h0]
    · simp only [setCls, e, if_false]
      by_cases hcn : c < n
      · rw [if_pos hcn, if_pos (show c < n + 1 from by omega)]; omega
      · rw [if_neg hcn, if_neg (show ¬ c < n + 1 from by omega)]; omega

/-- What holds of the classes when the bytes noted in E have been met. -/
structure CI (cls : Nat → Nat) (nm : Nat) (E : List (UInt8 × Nat)) : Prop where
  slash : cls 47 = 1
  met : ∀ c : UInt8, c ≠ 47 → (cls c.toNat ≠ 0 ↔ ∃ b, (c, b) ∈ E)
  lo : ∀ c : UInt8, c ≠ 47 → cls c.toNat ≠ 0 → 2 ≤ cls c.toNat ∧ cls c.toNat < nm
  inj : ∀ c d : UInt8, cls c.toNat ≠ 0 → cls c.toNat = cls d.toNat → c = d
  count : nm = 2 + own cls 256
  star : ∀ e ∈ E, e.1 ≠ 42

theorem CI.nm_le {cls : Nat → Nat} {nm : Nat} {E : List (UInt8 × Nat)} (h : CI cls nm E) : 2 ≤ nm ∧ nm ≤ 258 := by
  have := own_le cls 256
  have := h.count
  omega

theorem CI.lt {cls : Nat → Nat} {nm : Nat} {E : List (UInt8 × Nat)} (h : CI cls nm E) (c : UInt8) : cls c.toNat < nm := by
  have := h.nm_le
  by_cases e : c = 47
  · subst e
    have : cls (47 : UInt8).toNat = 1 := h.slash
    omega
  · by_cases e2 : cls c.toNat = 0
    · omega
    · exact (h.lo c e e2).2

theorem own_start : ∀ n, own (setCls (fun _ => 0) 47 1) n = 0
  | 0 => rfl
  | n + 1 => by
    unfold own
    rw [own_start n]
    by_cases e : n = 47
    · simp [e]
    · simp [setCls, e]

theorem CI.start : CI (setCls (fun _ => 0) 47 1) 2 [] := by
  have h47 : (47 : UInt8).toNat = 47 := rfl
  refine ⟨rfl, ?_, ?_, ?_, by rw [own_start], ?_⟩
  · intro c hc
    have : c.toNat ≠ 47 := fun e => hc (UInt8.toNat_inj.1 (by rw [e, h47]))
    simp [setCls, this]
  · intro c hc h
    have : c.toNat ≠ 47 := fun e => hc (UInt8.toNat_inj.1 (by rw [e, h47]))
    simp [setCls, this] at h
  · intro c d h1 h2
    have hc : c.toNat = 47 := by
      by_cases e : c.toNat = 47
      · exact e
      · simp [setCls, e] at h1
    have hd : d.toNat = 47 := by
      by_cases e : d.toNat = 47
      · exact e
      · simp [setCls, e, hc] at h2
    exact UInt8.toNat_inj.1 (by rw [hc, hd])
  · intro e he; cases he

/-- A byte that is met for the first time. -/
theorem CI.fresh {cls : Nat → Nat} {nm : Nat} {E : List (UInt8 × Nat)} (h : CI cls nm E) (c : UInt8) (b : Nat) (hc : c ≠ 42) (h0 : cls c.toNat = 0) :
    CI (setCls cls c.toNat nm) (nm + 1) (E ++ [(c, b)]) := by
  have hnm := h.nm_le
  have h47 : (47 : UInt8).toNat = 47 := rfl
  have hc47 : c ≠ 47 := by
    intro e; subst e
    have : cls (47 : UInt8).toNat = 1 := h.slash
    omega
  have hc47' : c.toNat ≠ 47 := fun e => hc47 (UInt8.toNat_inj.1 (by rw [e, h47]))
  have hat : ∀ d : UInt8, setCls cls c.toNat nm d.toNat = if d = c then nm else cls d.toNat := by
    intro d
    unfold setCls
    by_cases e : d = c
    · subst e; simp
    · have : d.toNat ≠ c.toNat := fun e2 => e (UInt8.toNat_inj.1 e2)
      simp [e, this]
  refine ⟨?_, ?_, ?_, ?_, ?_, ?_⟩
  · unfold setCls
    rw [if_neg (fun e => hc47' e.symm)]
    exact h.slash
  · intro d hd
    rw [hat d]
    by_cases e : d = c
    · subst e
      simp only [if_true]
      exact ⟨fun _ => ⟨b, by simp⟩, fun _ => by omega⟩
    · rw [if_neg e, h.met d hd]
      constructor
      · rintro ⟨b', hb'⟩; exact ⟨b', by simp [hb']⟩
      · rintro ⟨b', hb'⟩
        simp only [List.mem_append, List.mem_singleton, Prod.mk.injEq] at hb'
        rcases hb' with hb' | ⟨e2, _⟩
        · exact ⟨b', hb'⟩
        · exact absurd e2 e
  · intro d hd hn
    rw [hat d] at hn ⊢
    by_cases e : d = c
    · simp only [e, if_true]; omega
    · rw [if_neg e] at hn ⊢
      have := h.lo d hd hn
      omega
  · intro x y hx hxy
    rw [hat x] at hx hxy
    rw [hat y] at hxy
    by_cases ex : x = c <;> by_cases ey : y = c
    · rw [ex, ey]
    · simp only [ex, if_true, ey, if_false] at hxy
      have := h.lt y
      omega
    · simp only [ex, if_false, ey, if_true] at hxy
      have := h.lt x
      omega
    · simp only [ex, if_false, ey] at hx hxy
      exact h.inj x y hx hxy
  · rw [own_set cls c.toNat nm hc47' h0 (by omega) 256, if_pos c.toNat_lt, h.count]
    omega
  · intro e he
    simp only [List.mem_append, List.mem_singleton] at he
    rcases he with he | rfl
    · exact h.star e he
    · exact hc

/-- A byte that has been met. -/
theorem CI.again {cls : Nat → Nat} {nm : Nat} {E : List (UInt8 × Nat)} (h : CI cls nm E) (c : UInt8) (b : Nat) (hc : c ≠ 42) (h0 : cls c.toNat ≠ 0) :
    CI cls nm (E ++ [(c, b)]) := by
  refine ⟨h.slash, ?_, h.lo, h.inj, h.count, ?_⟩
  · intro d hd
    rw [h.met d hd]
    constructor
    · rintro ⟨b', hb'⟩; exact ⟨b', by simp [hb']⟩
    · rintro ⟨b', hb'⟩
      simp only [List.mem_append, List.mem_singleton, Prod.mk.injEq] at hb'
      rcases hb' with hb' | ⟨e2, _⟩
      · exact ⟨b', hb'⟩
      · subst e2; exact (h.met d hd).1 h0
  · intro e he
    simp only [List.mem_append, List.mem_singleton] at he
    rcases he with he | rfl
    · exact h.star e he
    · exact hc

/-- What has been met keeps its kind. -/
theorem any_fresh {cls : Nat → Nat} {nm : Nat} {E : List (UInt8 × Nat)} (h : CI cls nm E) (c : UInt8) (h0 : cls c.toNat = 0) (x b : Nat) :
    E.any (fun e => e.2 == b && setCls cls c.toNat nm e.1.toNat + 3 == x) = E.any (fun e => e.2 == b && cls e.1.toNat + 3 == x) := by
  have key : ∀ e ∈ E, setCls cls c.toNat nm e.1.toNat = cls e.1.toNat := by
    intro e he
    unfold setCls
    have : e.1.toNat ≠ c.toNat := by
      intro e2
      have e3 : e.1 = c := UInt8.toNat_inj.1 e2
      by_cases e47 : c = 47
      · subst e47
        have : cls (47 : UInt8).toNat = 1 := h.slash
        omega
      · exact (h.met c e47).2 ⟨e.2, by rw [← e3]; exact he⟩ h0
    rw [if_neg this]
  rw [Bool.eq_iff_iff, List.any_eq_true, List.any_eq_true]
  constructor
  · rintro ⟨e, he, hp⟩; exact ⟨e, he, by rw [key e he] at hp; exact hp⟩
  · rintro ⟨e, he, hp⟩; exact ⟨e, he, by rw [key e he]; exact hp⟩

theorem FF_any (cls : Nat → Nat) (E : List (UInt8 × Nat)) (Y T N : List Nat) (k b : Nat) : FF cls E Y T N (k + 3) b = E.any (fun e => e.2 == b && cls e.1.toNat + 3 == k + 3) := by
  unfold FF
  rw [if_neg (by omega), if_neg (by omega), if_neg (by omega)]

/-- The row of a new kind is empty. -/
theorem FF_new {cls : Nat → Nat} {nm : Nat} {E : List (UInt8 × Nat)} (h : CI cls nm E) (Y T N : List Nat) (b : Nat) : FF cls E Y T N (3 + nm) b = false := by
  rw [show 3 + nm = nm + 3 from by omega, FF_any]
  rw [Bool.eq_false_iff]
  intro hp
  rw [List.any_eq_true] at hp
  obtain ⟨e, he, hp⟩ := hp
  simp only [Bool.and_eq_true, beq_iff_eq] at hp
  have := h.lt e.1
  omega

end Go.Proofs.Qxb6001183a.Pl
