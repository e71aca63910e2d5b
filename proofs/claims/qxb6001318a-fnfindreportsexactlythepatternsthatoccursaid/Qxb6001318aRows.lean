/-
  No cell of these rows narrows 'for every input' (looked for: loops, veiled, ifaces, maps, wideKeys, modest, calm, conditions, laid).
  DERIVED. THE GIVEN ROWS OF THIS SEAT. 4 by the template 'for every input the law returns true; each argument reads behind the call as it read before'; 0 by the template 'total and deterministic' (their statements: Qxb6001318aTotals.lean).
  GIVEN WITH THE SEED: the statements are not yours to turn. If you find one false, say at which input.
  Laid BY PROGRAM, IN A SANDBOX (cutbox-rows.mjs): the forced cells as the released guide's own fill.sh prints them over the translation 124ed5a2fc1772e1… (all of the seat's roots in one cut). By AI agents, Wed Nov 11 2026. No macro, syntax, notation, axiom, sorry.
-/
import Derived.Test.Qxb6001318aChecked
import GoSem.Claim
import GoSem.ClaimJoined
import GoSem.ClaimMapViews
import Derived.JoinedTies
import Derived.KernelRfl
namespace Go.Proofs.Qxb6001318a
/- THE CELL 'sum', in the pinned program and in every row, IS THE sha256 OF THE DUMP (.gsa) THAT Qxb6001318aProg.lean LOADS. Nothing in Lean hashes anything: it is a label: what it is worth is what the hold of that sum in a sandbox is worth. -/
noncomputable def Try.pinned : Pinned := { name := "qxb6001318a", sum := "124ed5a2fc1772e1cd281b33d3ab260271806d43154344c2339853958c98c0fa", checked := Try.checked }
namespace Rows
def none {H : Type} : Left H := { results := [], args := [] }

/-- 'zzlaws_internal_ahocorasick_b1.FnLayBuildsTheTrieOfItsTexts': WHATEVER THE INPUT: true; the input reads as it did. -/
def fnLayBuildsTheTrieOfItsTextsSpec : ChangeSpec := { name := "fnLayBuildsTheTrieOfItsTexts", fn := fun _ => fun
  | [d] => { results := [.lit (.bool true)], args := [d] }
  | _ => none }
def fnLayBuildsTheTrieOfItsTextsRow : OpenClaim := { program := "qxb6001318a", sum := "124ed5a2fc1772e1cd281b33d3ab260271806d43154344c2339853958c98c0fa", func := "example.com/lotline/lotline/zzlaws_internal_ahocorasick_b1.FnLayBuildsTheTrieOfItsTexts", spec := "fnLayBuildsTheTrieOfItsTexts", apart := false }
def FnLayBuildsTheTrieOfItsTextsSaid : Prop := fnLayBuildsTheTrieOfItsTextsRow.holds Try.pinned (OpenSpec.ofChange fnLayBuildsTheTrieOfItsTextsSpec)

/-- ITS FALSE NEIGHBOUR: 'it returns false'. Refute it at one input. -/
def fnLayBuildsTheTrieOfItsTextsWrong : ChangeSpec := { name := "fnLayBuildsTheTrieOfItsTexts", fn := fun _ => fun
  | [d] => { results := [.lit (.bool false)], args := [d] }
  | _ => none }
def FnLayBuildsTheTrieOfItsTextsWrongFalsely : Prop := fnLayBuildsTheTrieOfItsTextsRow.holds Try.pinned (OpenSpec.ofChange fnLayBuildsTheTrieOfItsTextsWrong)

/-- 'zzlaws_internal_ahocorasick_b1.FnLayNumbersStatesBreadthFirstInByteOrder': WHATEVER THE INPUT: true; the input reads as it did. -/
def fnLayNumbersStatesBreadthFirstInByteOrderSpec : ChangeSpec := { name := "fnLayNumbersStatesBreadthFirstInByteOrder", fn := fun _ => fun
  | [d] => { results := [.lit (.bool true)], args := [d] }
  | _ => none }
def fnLayNumbersStatesBreadthFirstInByteOrderRow : OpenClaim := { program := "qxb6001318a", sum := "124ed5a2fc1772e1cd281b33d3ab260271806d43154344c2339853958c98c0fa", func := "example.com/lotline/lotline/zzlaws_internal_ahocorasick_b1.FnLayNumbersStatesBreadthFirstInByteOrder", spec := "fnLayNumbersStatesBreadthFirstInByteOrder", apart := false }
def FnLayNumbersStatesBreadthFirstInByteOrderSaid : Prop := fnLayNumbersStatesBreadthFirstInByteOrderRow.holds Try.pinned (OpenSpec.ofChange fnLayNumbersStatesBreadthFirstInByteOrderSpec)

/-- ITS FALSE NEIGHBOUR: 'it returns false'. Refute it at one input. -/
def fnLayNumbersStatesBreadthFirstInByteOrderWrong : ChangeSpec := { name := "fnLayNumbersStatesBreadthFirstInByteOrder", fn := fun _ => fun
  | [d] => { results := [.lit (.bool false)], args := [d] }
  | _ => none }
def FnLayNumbersStatesBreadthFirstInByteOrderWrongFalsely : Prop := fnLayNumbersStatesBreadthFirstInByteOrderRow.holds Try.pinned (OpenSpec.ofChange fnLayNumbersStatesBreadthFirstInByteOrderWrong)

/-- 'zzlaws_internal_ahocorasick_b1.FnFindReportsExactlyThePatternsThatOccur': WHATEVER THE INPUT: true; the input reads as it did. -/
def fnFindReportsExactlyThePatternsThatOccurSpec : ChangeSpec := { name := "fnFindReportsExactlyThePatternsThatOccur", fn := fun _ => fun
  | [d1, d2] => { results := [.lit (.bool true)], args := [d1, d2] }
  | _ => none }
def fnFindReportsExactlyThePatternsThatOccurRow : OpenClaim := { program := "qxb6001318a", sum := "124ed5a2fc1772e1cd281b33d3ab260271806d43154344c2339853958c98c0fa", func := "example.com/lotline/lotline/zzlaws_internal_ahocorasick_b1.FnFindReportsExactlyThePatternsThatOccur", spec := "fnFindReportsExactlyThePatternsThatOccur", inPlace := ["internal/bytealg.IndexByte"], apart := false }
def FnFindReportsExactlyThePatternsThatOccurSaid : Prop := fnFindReportsExactlyThePatternsThatOccurRow.holds Try.pinned (OpenSpec.ofChange fnFindReportsExactlyThePatternsThatOccurSpec)

/-- ITS FALSE NEIGHBOUR: 'it returns false'. Refute it at one input. -/
def fnFindReportsExactlyThePatternsThatOccurWrong : ChangeSpec := { name := "fnFindReportsExactlyThePatternsThatOccur", fn := fun _ => fun
  | [d1, d2] => { results := [.lit (.bool false)], args := [d1, d2] }
  | _ => none }
def FnFindReportsExactlyThePatternsThatOccurWrongFalsely : Prop := fnFindReportsExactlyThePatternsThatOccurRow.holds Try.pinned (OpenSpec.ofChange fnFindReportsExactlyThePatternsThatOccurWrong)

/-- 'zzlaws_internal_ahocorasick_b1.FnFindIsMonotoneUnderExtension': WHATEVER THE INPUT: true; the input reads as it did. -/
def fnFindIsMonotoneUnderExtensionSpec : ChangeSpec := { name := "fnFindIsMonotoneUnderExtension", fn := fun _ => fun
  | [d1, d2, d3, d4] => { results := [.lit (.bool true)], args := [d1, d2, d3, d4] }
  | _ => none }
def fnFindIsMonotoneUnderExtensionRow : OpenClaim := { program := "qxb6001318a", sum := "124ed5a2fc1772e1cd281b33d3ab260271806d43154344c2339853958c98c0fa", func := "example.com/lotline/lotline/zzlaws_internal_ahocorasick_b1.FnFindIsMonotoneUnderExtension", spec := "fnFindIsMonotoneUnderExtension", inPlace := ["internal/bytealg.IndexByte"], apart := false }
def FnFindIsMonotoneUnderExtensionSaid : Prop := fnFindIsMonotoneUnderExtensionRow.holds Try.pinned (OpenSpec.ofChange fnFindIsMonotoneUnderExtensionSpec)

/-- ITS FALSE NEIGHBOUR: 'it returns false'. Refute it at one input. -/
def fnFindIsMonotoneUnderExtensionWrong : ChangeSpec := { name := "fnFindIsMonotoneUnderExtension", fn := fun _ => fun
  | [d1, d2, d3, d4] => { results := [.lit (.bool false)], args := [d1, d2, d3, d4] }
  | _ => none }
def FnFindIsMonotoneUnderExtensionWrongFalsely : Prop := fnFindIsMonotoneUnderExtensionRow.holds Try.pinned (OpenSpec.ofChange fnFindIsMonotoneUnderExtensionWrong)

end Rows
end Go.Proofs.Qxb6001318a
