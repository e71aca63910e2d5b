/-
  PLAIN: the glob matcher over reversed lists, and the automaton that follows one pattern. No Go in sight.
-/
namespace Go.Proofs.Qxb6001183a.Pl

/-- Behind a star: any run of bytes but the slash. (The text's last byte first.) -/
def starF (g : List UInt8 → Bool) : List UInt8 → Bool
  | [] => g []
  | c :: t => g (c :: t) || (c != 47 && starF g t)

/-- A byte that matches itself alone. -/
def chF (a : UInt8) (g : List UInt8 → Bool) : List UInt8 → Bool
  | [] => false
  | c :: t => g t && c == a

/-- The matcher: the pattern's last byte first, the text's last byte first. -/
def gm : List UInt8 → List UInt8 → Bool
  | [] => fun t => t.isEmpty
  | a :: p => if a == 42 then starF (gm p) else chF a (gm p)

theorem gm_star (p : List UInt8) : gm (42 :: p) = starF (gm p) := by simp [gm]
theorem gm_ch (a : UInt8) (p : List UInt8) (h : a ≠ 42) : gm (a :: p) = chF a (gm p) := by simp [gm, h]

/-- The table's entry: the first i bytes of p against the first j bytes of s. -/
def D (p s : List UInt8) (i j : Nat) : Bool := gm (p.take i).reverse (s.take j).reverse

theorem D_zero (p s : List UInt8) (j : Nat) (h : j ≤ s.length) : D p s 0 j = decide (j = 0) := by
  unfold D
  cases j with
  | zero => simp [gm]
  | succ j =>
    have : s.take (j + 1) ≠ [] := by
      intro e
      have := congrArg List.length e
      rw [List.length_take, List.length_nil] at this
      omega
    simp [gm]
    simpa using this

theorem take_rev (l : List UInt8) (k : Nat) (h : k < l.length) : (l.take (k + 1)).reverse = l[k] :: (l.take k).reverse := by
  rw [List.take_succ_eq_append_getElem h]; simp

theorem D_star_zero (p s : List UInt8) (i : Nat) (hi : i < p.length) (h : p[i] = 42) : D p s (i + 1) 0 = D p s i 0 := by
  unfold D
  rw [take_rev p i hi, h, gm_star]
  simp [starF]

theorem D_star (p s : List UInt8) (i j : Nat) (hi : i < p.length) (hj : j < s.length) (h : p[i] = 42) :
    D p s (i + 1) (j + 1) = (D p s i (j + 1) || (s[j] != 47 && D p s (i + 1) j)) := by
  unfold D
  rw [take_rev p i hi, take_rev s j hj, h, gm_star]
  simp [starF]

theorem D_ch_zero (p s : List UInt8) (i : Nat) (hi : i < p.length) (h : p[i] ≠ 42) : D p s (i + 1) 0 = false := by
  unfold D
  rw [take_rev p i hi, gm_ch _ _ h]
  simp [chF]

theorem D_ch (p s : List UInt8) (i j : Nat) (hi : i < p.length) (hj : j < s.length) (h : p[i] ≠ 42) :
    D p s (i + 1) (j + 1) = (D p s i j && s[j] == p[i]) := by
  unfold D
  rw [take_rev p i hi, take_rev s j hj, gm_ch _ _ h]
  simp [chF]

/-- Does p match s? -/
def glob (p s : List UInt8) : Bool := gm p.reverse s.reverse

theorem D_all (p s : List UInt8) : D p s p.length s.length = glob p s := by simp [D, glob]

end Go.Proofs.Qxb6001183a.Pl
