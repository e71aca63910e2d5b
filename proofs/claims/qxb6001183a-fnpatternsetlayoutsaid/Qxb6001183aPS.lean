/-
  A patternSet in memory; where the runs of bits lie.
-/
import Derived.Test.Qxb6001183aGlob
import Derived.Test.Qxb6001183aEvPlain
namespace Go.Proofs.Qxb6001183a
open Go.RowKit
set_option linter.unusedSimpArgs false
set_option linter.unusedVariables false

theorem info3 : (Try.prog.info? 3).map (fun i => (i.zero, i.size, i.bytes)) = some (some (.int .i64 0), 1, 8) := by kernel_rfl
theorem info40 : (Try.prog.info? 40).map (fun i => (i.zero, i.size, i.bytes)) = some (some (.int .u64 0), 1, 8) := by kernel_rfl
theorem info37 : (Try.prog.info? 37).map (fun i => (i.zero, i.size, i.bytes)) = some (some (.slice none 0 0), 1, 24) := by kernel_rfl

/-- The zero patternSet. -/
def Z51 : Array Value := (#[.slice none 0 0, .slice none 0 0] ++ Array.replicate 256 (.int .u16 0)) ++ #[.slice none 0 0, .slice none 0 0, .slice none 0 0, .slice none 0 0]

theorem zero51 (w : World) : (zeroValue 51).run Try.prog w = .ok (.agg Z51) w := by kernel_rfl
theorem Z51_size : Z51.size = 262 := by kernel_rfl

/-- The cells of a patternSet: first, last, kind, moves, stays, starts, ends. -/
def sb (f0 f1 : Value) (cls : Nat → Nat) (f3 f4 f5 f6 : Value) (i : Nat) : Value :=
  if i = 0 then f0 else if i = 1 then f1 else if i < 258 then .int .u16 (cls (i - 2) : Int) else if i = 258 then f3 else if i = 259 then f4 else if i = 260 then f5 else f6

/-- A patternSet in block b. -/
def PS (w : World) (b : Nat) (f0 f1 : Value) (cls : Nat → Nat) (f3 f4 f5 f6 : Value) : Prop := w.rowIs b 51 262 (sb f0 f1 cls f3 f4 f5 f6)

section
variable {w : World} {b : Nat} {f0 f1 f3 f4 f5 f6 : Value} {cls : Nat → Nat}
theorem PS.c0 (h : PS w b f0 f1 cls f3 f4 f5 f6) : w.cell? ⟨b, 0, none⟩ = some f0 := World.rowIs.cell h (i := 0) (by decide)
theorem PS.c1 (h : PS w b f0 f1 cls f3 f4 f5 f6) : w.cell? ⟨b, 1, none⟩ = some f1 := World.rowIs.cell h (i := 1) (by decide)
theorem PS.cc (h : PS w b f0 f1 cls f3 f4 f5 f6) {c : Nat} (hc : c < 256) : w.cell? ⟨b, 2 + c, none⟩ = some (.int .u16 (cls c : Int)) := by
  have e := World.rowIs.cell h (i := 2 + c) (by omega)
  rw [e]
  unfold sb
  rw [if_neg (by omega), if_neg (by omega), if_pos (by omega), show 2 + c - 2 = c from by omega]
theorem PS.c3 (h : PS w b f0 f1 cls f3 f4 f5 f6) : w.cell? ⟨b, 258, none⟩ = some f3 := World.rowIs.cell h (i := 258) (by decide)
theorem PS.c4 (h : PS w b f0 f1 cls f3 f4 f5 f6) : w.cell? ⟨b, 259, none⟩ = some f4 := World.rowIs.cell h (i := 259) (by decide)
theorem PS.c5 (h : PS w b f0 f1 cls f3 f4 f5 f6) : w.cell? ⟨b, 260, none⟩ = some f5 := World.rowIs.cell h (i := 260) (by decide)
theorem PS.c6 (h : PS w b f0 f1 cls f3 f4 f5 f6) : w.cell? ⟨b, 261, none⟩ = some f6 := World.rowIs.cell h (i := 261) (by decide)
theorem PS.fr (h : PS w b f0 f1 cls f3 f4 f5 f6) (i : Nat) : w.frozen? ⟨b, i, none⟩ = false := World.rowIs.frozen h i
theorem PS.lt (h : PS w b f0 f1 cls f3 f4 f5 f6) : b < w.heap.size := World.rowIs.lt h
theorem PS.of_block {w' : World} (h : PS w b f0 f1 cls f3 f4 f5 f6) (e : w'.heap[b]? = w.heap[b]?) : PS w' b f0 f1 cls f3 f4 f5 f6 := World.rowIs.of_block h e
theorem PS.other (h : PS w b f0 f1 cls f3 f4 f5 f6) {a : Addr} (ha : b ≠ a.block) (v : Value) : PS (w.setCell a v) b f0 f1 cls f3 f4 f5 f6 := World.rowIs.setOther h ha v
theorem PS.alloc (h : PS w b f0 f1 cls f3 f4 f5 f6) (o : Obj) : PS (w.alloc o) b f0 f1 cls f3 f4 f5 f6 := World.rowIs.alloc h o
theorem PS.set3 (h : PS w b f0 f1 cls f3 f4 f5 f6) (v : Value) : PS (w.setCell ⟨b, 258, none⟩ v) b f0 f1 cls v f4 f5 f6 :=
  (World.rowIs.set h 258 v).congr fun i hi => by
    unfold sb
    by_cases e : i = 258
    · subst e; simp
    · rw [if_neg e]; simp [e]
theorem PS.set4 (h : PS w b f0 f1 cls f3 f4 f5 f6) (v : Value) : PS (w.setCell ⟨b, 259, none⟩ v) b f0 f1 cls f3 v f5 f6 :=
  (World.rowIs.set h 259 v).congr fun i hi => by
    unfold sb
    by_cases e : i = 259
    · subst e; simp
    · rw [if_neg e]; simp [e]
theorem PS.set5 (h : PS w b f0 f1 cls f3 f4 f5 f6) (v : Value) : PS (w.setCell ⟨b, 260, none⟩ v) b f0 f1 cls f3 f4 v f6 :=
  (World.rowIs.set h 260 v).congr fun i hi => by
    unfold sb
    by_cases e : i = 260
    · subst e; simp
    · rw [if_neg e]; simp [e]
theorem PS.set6 (h : PS w b f0 f1 cls f3 f4 f5 f6) (v : Value) : PS (w.setCell ⟨b, 261, none⟩ v) b f0 f1 cls f3 f4 f5 v :=
  (World.rowIs.set h 261 v).congr fun i hi => by
    unfold sb
    by_cases e : i = 261
    · subst e; simp
    · rw [if_neg e]
      by_cases e2 : i < 258
      · simp [e2]
      · simp only [e2, if_false]
        have : i = 258 ∨ i = 259 ∨ i = 260 := by omega
        rcases this with rfl | rfl | rfl <;> simp
theorem PS.setc (h : PS w b f0 f1 cls f3 f4 f5 f6) {c : Nat} (hc : c < 256) (k : Nat) : PS (w.setCell ⟨b, 2 + c, none⟩ (.int .u16 (k : Int))) b f0 f1 (Pl.setCls cls c k) f3 f4 f5 f6 :=
  (World.rowIs.set h (2 + c) _).congr fun i hi => by
    unfold sb Pl.setCls
    by_cases e : i = 2 + c
    · subst e
      rw [if_pos rfl, if_neg (by omega), if_neg (by omega), if_pos (by omega), if_pos (by omega)]
    · rw [if_neg e]
      by_cases e0 : i = 0
      · simp [e0]
      by_cases e1 : i = 1
      · simp [e1]
      rw [if_neg e0, if_neg e1, if_neg e0, if_neg e1]
      by_cases e2 : i < 258
      · rw [if_pos e2, if_pos e2, if_neg (by omega)]
      · rw [if_neg e2, if_neg e2]
end

theorem ps_made (w : World) (f0 f1 : Value) : PS (w.alloc (.cells ((Z51.setIfInBounds 0 f0).setIfInBounds 1 f1) 51)) w.heap.size f0 f1 (fun _ => 0) (.slice none 0 0) (.slice none 0 0) (.slice none 0 0) (.slice none 0 0) := by
  have h := World.rowIs_alloc w ((Z51.setIfInBounds 0 f0).setIfInBounds 1 f1) 51 (sb f0 f1 (fun _ => 0) (.slice none 0 0) (.slice none 0 0) (.slice none 0 0) (.slice none 0 0)) (fun i hi => by
    have hs : i < 262 := by simpa [Z51_size] using hi
    rw [Array.getElem?_setIfInBounds, Array.getElem?_setIfInBounds]
    unfold sb
    by_cases e1 : i = 1
    · subst e1; simp [Z51_size]
    by_cases e0 : i = 0
    · subst e0; simp [Z51_size]
    rw [if_neg (fun e => e1 e.symm), if_neg (fun e => e0 e.symm), if_neg e0, if_neg e1]
    unfold Z51
    by_cases e2 : i < 258
    · rw [if_pos e2, Array.getElem?_append_left (by simp; omega), Array.getElem?_append_right (by simp; omega)]
      have h3 : (Array.replicate 256 (Value.int .u16 0))[i - 2]? = some (.int .u16 0) := by rw [Array.getElem?_replicate, if_pos (by omega)]
      exact h3
    · rw [if_neg e2, Array.getElem?_append_right (by simp; omega)]
      have : i = 258 ∨ i = 259 ∨ i = 260 ∨ i = 261 := by omega
      rcases this with rfl | rfl | rfl | rfl <;> simp)
  have e : ((Z51.setIfInBounds 0 f0).setIfInBounds 1 f1).size = 262 := by simp [Z51_size]
  rw [e] at h
  exact h

/-! ### Where the runs lie -/

/-- The bytes of pattern i. -/
def pat (S : Nat → ByteArray) (i : Nat) : List UInt8 := (S i).data.toList
/-- The first bit of run i. -/
def fstB (S : Nat → ByteArray) : Nat → Nat
  | 0 => 0
  | i + 1 => fstB S i + ns (pat S i) + 1
/-- The last bit of run i. -/
def lstB (S : Nat → ByteArray) (i : Nat) : Nat := fstB S i + ns (pat S i)

theorem fstB_succ (S : Nat → ByteArray) (i : Nat) : fstB S (i + 1) = lstB S i + 1 := rfl
theorem pat_length (S : Nat → ByteArray) (i : Nat) : (pat S i).length = (S i).size := by simp [pat]
theorem fstB_le (S : Nat → ByteArray) : ∀ i, fstB S i ≤ tot S i + i
  | 0 => Nat.le_refl _
  | i + 1 => by
    have h := fstB_le S i
    have h2 := ns_le (pat S i)
    rw [pat_length] at h2
    have e1 : fstB S (i + 1) = fstB S i + ns (pat S i) + 1 := rfl
    have e2 : tot S (i + 1) = tot S i + (S i).size := rfl
    omega
theorem fstB_mono (S : Nat → ByteArray) {i j : Nat} (h : i < j) : lstB S i < fstB S j := by
  induction j with
  | zero => omega
  | succ j ih =>
    rw [fstB_succ]
    have hj : fstB S j ≤ lstB S j := Nat.le_add_right _ _
    by_cases e : i = j
    · subst e; omega
    · have := ih (by omega); omega
theorem lstB_bound (S : Nat → ByteArray) {i N : Nat} (h : i < N) : lstB S i < fstB S N := fstB_mono S h

/-- A row of ints. -/
def icell (f : Nat → Nat) (k : Nat) : Value := .int .i64 (f k : Int)
/-- The first k of f, nothing behind. -/
def pre (k : Nat) (f : Nat → Nat) (j : Nat) : Nat := if j < k then f j else 0
theorem pre_zero (f : Nat → Nat) (j : Nat) : pre 0 f j = 0 := rfl
theorem pre_at (k : Nat) (f : Nat → Nat) : pre (k + 1) f k = f k := by unfold pre; rw [if_pos (by omega)]
theorem pre_ne (k : Nat) (f : Nat → Nat) (j : Nat) (h : j ≠ k) : pre k f j = pre (k + 1) f j := by
  unfold pre
  by_cases e : j < k
  · rw [if_pos e, if_pos (by omega)]
  · rw [if_neg e, if_neg (by omega)]
theorem pre_all (n : Nat) (f : Nat → Nat) (j : Nat) (h : j < n) : pre n f j = f j := if_pos h

theorem irow_step {w : World} {b n k : Nat} {f : Nat → Nat} {v : Int} (hr : w.rowIs b 3 n (icell (pre k f))) (hv : v = (f k : Int)) : (w.setCell ⟨b, k, none⟩ (.int .i64 v)).rowIs b 3 n (icell (pre (k + 1) f)) := by
  subst hv
  refine (hr.set k _).congr fun x hx => ?_
  unfold icell
  by_cases e : x = k
  · subst e; rw [if_pos rfl, pre_at]
  · rw [if_neg e, pre_ne k f x e]

theorem ns_eq (l : List UInt8) : ns l = Pl.nst l := by
  induction l with
  | nil => rfl
  | cons c l ih =>
    unfold Pl.nst
    by_cases h : (c == 42) = true
    · rw [if_pos h, ← ih]
      have : c = 42 := by simpa using h
      subst this
      rfl
    · rw [if_neg h, ← ih]
      have : c ≠ 42 := by simpa using h
      simp [ns, this]

/-- A slice over the whole of block g. -/
def hdr (g n : Nat) : Value := .slice (some ⟨g, 0, none⟩) n n

/-! ### The rows of bits, all together -/

/-- m rows of W words, in blocks of their own, row x holding the bits F x. -/
def Fam (w : World) (W m : Nat) (G : Nat → Nat) (F : Nat → Nat → Bool) : Prop :=
  (∀ x, x < m → w.rowIs (G x) 40 W (bcell (F x))) ∧ ∀ x y, x < m → y < m → G x = G y → x = y

theorem Fam.congr {w : World} {W m : Nat} {G : Nat → Nat} {F F' : Nat → Nat → Bool} (h : Fam w W m G F) (e : ∀ x, x < m → ∀ b, F x b = F' x b) : Fam w W m G F' :=
  ⟨fun x hx => (h.1 x hx).congr fun q hq => by unfold bcell; rw [Pl.word_congr (F x) (F' x) q fun j hj => e x hx _], h.2⟩

/-- F with bit i besides in row x. -/
def updF (F : Nat → Nat → Bool) (x i : Nat) : Nat → Nat → Bool := fun y => if y = x then Pl.setF (F x) i else F y

theorem Fam.setBit {w w' : World} {W m : Nat} {G : Nat → Nat} {F : Nat → Nat → Bool} {x i : Nat} (h : Fam w W m G F) (hx : x < m) (hr : w'.rowIs (G x) 40 W (bcell (Pl.setF (F x) i))) (ho : Only (G x) w w') : Fam w' W m G (updF F x i) := by
  refine ⟨fun y hy => ?_, h.2⟩
  unfold updF
  by_cases e : y = x
  · subst e; rw [if_pos rfl]; exact hr
  · rw [if_neg e]
    exact ho.row (fun e2 => e (h.2 y x hy hx e2)) (h.1 y hy)

theorem Fam.other {w w' : World} {W m : Nat} {G : Nat → Nat} {F : Nat → Nat → Bool} (h : Fam w W m G F) (hb : ∀ x, x < m → w'.heap[G x]? = w.heap[G x]?) : Fam w' W m G F :=
  ⟨fun x hx => (h.1 x hx).of_block (hb x hx), h.2⟩

/-- One row more. -/
theorem Fam.snoc {w : World} {W m g : Nat} {G : Nat → Nat} {F : Nat → Nat → Bool} (h : Fam w W m G F) (hg : ∀ x, x < m → G x ≠ g) (hr : w.rowIs g 40 W (bcell (F m))) : Fam w W (m + 1) (fun x => if x = m then g else G x) F := by
  refine ⟨fun x hx => ?_, fun x y hx hy e => ?_⟩
  · by_cases e : x = m
    · subst e; simpa using hr
    · simpa [e] using h.1 x (by omega)
  · by_cases ex : x = m <;> by_cases ey : y = m
    · omega
    · simp only [ex, if_true, ey, if_false] at e
      exact absurd e.symm (hg y (by omega))
    · simp only [ex, if_false, ey, if_true] at e
      exact absurd e (hg x (by omega))
    · simp only [ex, ey, if_false] at e
      exact h.2 x y (by omega) (by omega) e
end Go.Proofs.Qxb6001183a
