/-
  THE PROOF OF 'Rows.FnFindReportsExactlyThePatternsThatOccurSaid': the row's frame over the walk.
-/
import Derived.Test.Qxb6001318aRows
import Derived.Test.Qxb6001318aLaw5
import Derived.WalkKit
import Derived.ProofKit
import Derived.OpenShut
import Derived.ShutString
import Derived.ChangeOld
import Derived.Below
import Derived.SliceStrings
namespace Go.Proofs.Qxb6001318a.fnFindReportsExactlyThePatternsThatOccur
open Go.ChangeShapes Go.WideShapes Go.ChangeAt Go.RowKit
open Go.ChangeMaps (open_string shut_string)
set_option linter.unusedVariables false

theorem own : ownKnob Try.prog.godebug = none := by kernel_rfl
theorem laidOut : laidOutB Try.prog = true := by kernel_rfl

/-- What the walk is told of the slice of strings that came in. -/
def IsStrs (w : World) (a : Option Addr) (len cap : Nat) (S : Nat → ByteArray) : Prop :=
  len ≤ maxLen ∧ (a = none → len = 0 ∧ cap = 0) ∧ SArg w a len S ∧ ∀ k, k < len → (S k).size ≤ maxLen

theorem isStrs_nil (w : World) : IsStrs w none 0 0 (fun _ => ByteArray.empty) := ⟨by unfold maxLen; omega, fun _ => ⟨rfl, rfl⟩, fun h => absurd h (Nat.lt_irrefl _), fun k hk => absurd hk (Nat.not_lt_zero _)⟩

theorem isStrs_some {w : World} {a : Addr} {len cap : Nat} {ss : List ByteArray} (hl : len ≤ cap) (hm : cap ≤ maxLen) (hz : ss.length = cap)
    (hcell : ∀ i, i < ss.length → w.cell? (a.add i) = some (.string (ss.getD i ByteArray.empty))) (hws : ∀ s ∈ ss, s.size ≤ maxLen) : IsStrs w (some a) len cap (fun i => ss.getD i ByteArray.empty) := by
  refine ⟨Nat.le_trans hl hm, (fun e => nomatch e), fun hp => ?_, fun k hk => ?_⟩
  · have h0 := hcell 0 (by omega)
    have hsp : a.spot = none := by
      have := World.cell?_spot h0
      simpa [Addr.add] using this
    refine ⟨a.block, a.off, ?_, fun k hk => ?_⟩
    · cases a; simp_all
    · have := hcell k (by omega)
      have e : a.add k = ⟨a.block, a.off + k, none⟩ := by
        unfold Addr.add
        split
        · cases a; simp_all
        · rfl
      rw [e] at this
      exact this
  · have hk' : k < ss.length := by omega
    show (ss.getD k ByteArray.empty).size ≤ maxLen
    rw [List.getD_eq_getElem?_getD, List.getElem?_eq_getElem hk']
    exact hws _ (List.getElem_mem hk')

theorem walk (a0 : Option Addr) (len0 cap0 : Nat) (S : Nat → ByteArray) (a1 : ByteArray) (w : World) (w0 : IsStrs w a0 len0 cap0 S) (w1 : a1.size ≤ maxLen) :
    Calls Try.prog 5 #[.slice a0 len0 cap0, .string a1] w fun e w' => e = .returned (.bool true) ∧ Below w.heap.size w w' :=
  law5 a0 len0 cap0 S a1 w w0.1 w0.2.1 w0.2.2.1 w0.2.2.2 w1

/-! ### THE ROW's STEP -/
set_option maxRecDepth 100000 in
theorem lifted (os : Os) (started : os.Started) (H : Type) (enc : TypeId × Value → H) :
    ReturnsInHanded {} Try.checked os 5 .any (Rows.fnFindReportsExactlyThePatternsThatOccurSpec.pre6 enc Try.prog Try.f5 Rows.fnFindReportsExactlyThePatternsThatOccurRow.domain false) (Rows.fnFindReportsExactlyThePatternsThatOccurSpec.post enc Try.prog Try.f5 false true false false) := by
  refine returnsInHanded_of_change (C := Try.checked) own started (by kernel_rfl) Try.func5
    (ChangeSpec.witness6 (enc := enc) (C := Try.checked) false ⟨#[], #[.slice none 0 0, .string ByteArray.empty], []⟩ 8 (by kernel_rfl) (by kernel_rfl) (by kernel_rfl) (by kernel_rfl)) ?_
  intro W base args ds gs before hval0 hW hcnd _
  have hval : ∀ (j : Nat) t v, Try.f5.params[j]? = some t → args[j]? = some v → Value.okWide Try.prog W .any base t v := hval0
  have hW' := hW
  obtain ⟨p, q, hA0, hV, rfl, hfz, hnd⟩ := hW
  have hA : DataW.TrodAll enc Try.prog W 0 (fun _ => true) true Try.f5.params.toList args.toList ds p := hA0
  rw [Try.params5] at hA hval
  obtain ⟨v0, vs0, d0, ds0, p0, q0, hargs, rfl, rfl, h0, r0⟩ := trodAll_cons hA
  obtain ⟨v1, vs1, d1, ds1, p1, q1, rfl, rfl, rfl, h1, r1⟩ := trodAll_cons r0
  obtain ⟨rfl, rfl, rfl⟩ := trodAll_nil r1
  obtain rfl : args = #[v0, v1] := by cases args; simp_all
  obtain ⟨rfl, rfl⟩ := trodVars_none hV
  obtain ⟨a0, len0, cap0, rfl⟩ := okWide_slice Try.underlying22 (hval 0 22 v0 rfl rfl)
  have k0 := h0
  have lt0 : ∀ x ∈ p0, x.block < W.heap.size := by obtain ⟨m, hm⟩ := k0; exact DataW.trod_lt m _ _ _ hm
  obtain ⟨S, w0⟩ : ∃ S, IsStrs W a0 len0 cap0 S := by
    obtain ⟨fuel, hf⟩ := h0
    rcases open_strings Try.underlying22 Try.underlying9 (by kernel_rfl) hf with ⟨hcs, _⟩ | ⟨x, l, c, ss, hcs, _, hl, hm, hz, _, hcell, hws⟩
    · simp [Value.cells] at hcs
      obtain ⟨rfl, rfl, rfl⟩ := hcs
      exact ⟨_, isStrs_nil W⟩
    · simp [Value.cells] at hcs
      obtain ⟨rfl, rfl, rfl⟩ := hcs
      exact ⟨_, isStrs_some hl hm (by simpa using hz) hcell hws⟩
  obtain ⟨a1, rfl, rfl, rfl, w1⟩ := open_string Try.underlying9 (hval 1 9 v1 rfl rfl) h1
  clear hA0 hval0
  refine (walk a0 len0 cap0 S a1 W w0 w1).mono fun e W' ⟨he, bel⟩ => ?_
  subst he
  exact ⟨_, rfl, _, _, _, [], _, [], hW', trodAll_mk1 (shut_bool Try.underlying4 _), (trodAll_cons_mk (Below.trod laidOut (by kernel_rfl) (of_decide_eq_true (by kernel_rfl)) k0 bel lt0) (trodAll_cons_mk (shut_string Try.underlying9 w1) trodAll_mk0)), rfl, bel.frame _, fun h => by cases h⟩

theorem over : Rows.fnFindReportsExactlyThePatternsThatOccurRow.holds Try.pinned (OpenSpec.ofChange Rows.fnFindReportsExactlyThePatternsThatOccurSpec) :=
  OpenClaim.holds_of_wide 5 Try.f5 rfl rfl rfl rfl rfl rfl rfl ⟨rfl, rfl, rfl, rfl, rfl⟩ rfl rfl rfl rfl rfl (by kernel_rfl) Try.func5 (by kernel_rfl)
    (of_decide_eq_true (by kernel_rfl)) (by unfold Func.isWrapper; first | (rw [if_pos (by decide +kernel)]; kernel_rfl) | (rw [if_neg (by decide +kernel)]; exact ⟨rfl, rfl⟩))
    (fun os started H enc _ => lifted os started H enc)

/-- THE STATEMENT -/
theorem proved : Rows.FnFindReportsExactlyThePatternsThatOccurSaid := over
end Go.Proofs.Qxb6001318a.fnFindReportsExactlyThePatternsThatOccur
