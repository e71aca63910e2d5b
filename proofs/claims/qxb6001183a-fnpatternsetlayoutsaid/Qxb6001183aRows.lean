/-
  No cell of these rows narrows 'for every input' (looked for: loops, veiled, ifaces, maps, wideKeys, modest, calm, conditions, laid).
  DERIVED. THE GIVEN ROWS OF THIS SEAT. 5 by the template 'for every input the law returns true; each argument reads behind the call as it read before'; 0 by the template 'total and deterministic' (their statements: Qxb6001183aTotals.lean).
  GIVEN WITH THE SEED: the statements are not yours to turn. If you find one false, say at which input.
  Laid BY PROGRAM, IN A SANDBOX (cutbox-rows.mjs): the forced cells as the released guide's own fill.sh prints them over the translation 49793745507047a1… (all of the seat's roots in one cut). By AI agents, Wed Nov 11 2026. No macro, syntax, notation, axiom, sorry.
-/
import Derived.Test.Qxb6001183aChecked
import GoSem.Claim
import GoSem.ClaimJoined
import GoSem.ClaimMapViews
import Derived.JoinedTies
import Derived.KernelRfl
namespace Go.Proofs.Qxb6001183a
/- THE CELL 'sum', in the pinned program and in every row, IS THE sha256 OF THE DUMP (.gsa) THAT Qxb6001183aProg.lean LOADS. Nothing in Lean hashes anything: it is a label: what it is worth is what the hold of that sum in a sandbox is worth. -/
noncomputable def Try.pinned : Pinned := { name := "qxb6001183a", sum := "49793745507047a1af635ebfbe4ff9db8bdf761c2f943fd5f641fbb54f82b2be", checked := Try.checked }
namespace Rows
def none {H : Type} : Left H := { results := [], args := [] }

/-- 'zzlaws_internal_snapyaml_b1.FnEditsSymmetric': WHATEVER THE INPUT: true; the input reads as it did. -/
def fnEditsSymmetricSpec : ChangeSpec := { name := "fnEditsSymmetric", fn := fun _ => fun
  | [d1, d2, d3] => { results := [.lit (.bool true)], args := [d1, d2, d3] }
  | _ => none }
def fnEditsSymmetricRow : OpenClaim := { program := "qxb6001183a", sum := "49793745507047a1af635ebfbe4ff9db8bdf761c2f943fd5f641fbb54f82b2be", func := "example.com/parcelwright/parcelwright/zzlaws_internal_snapyaml_b1.FnEditsSymmetric", spec := "fnEditsSymmetric", apart := false }
def FnEditsSymmetricSaid : Prop := fnEditsSymmetricRow.holds Try.pinned (OpenSpec.ofChange fnEditsSymmetricSpec)

/-- ITS FALSE NEIGHBOUR: 'it returns false'. Refute it at one input. -/
def fnEditsSymmetricWrong : ChangeSpec := { name := "fnEditsSymmetric", fn := fun _ => fun
  | [d1, d2, d3] => { results := [.lit (.bool false)], args := [d1, d2, d3] }
  | _ => none }
def FnEditsSymmetricWrongFalsely : Prop := fnEditsSymmetricRow.holds Try.pinned (OpenSpec.ofChange fnEditsSymmetricWrong)

/-- 'zzlaws_internal_snapyaml_b1.FnEditsTriangle': WHATEVER THE INPUT: true; the input reads as it did. -/
def fnEditsTriangleSpec : ChangeSpec := { name := "fnEditsTriangle", fn := fun _ => fun
  | [d1, d2, d3, d4] => { results := [.lit (.bool true)], args := [d1, d2, d3, d4] }
  | _ => none }
def fnEditsTriangleRow : OpenClaim := { program := "qxb6001183a", sum := "49793745507047a1af635ebfbe4ff9db8bdf761c2f943fd5f641fbb54f82b2be", func := "example.com/parcelwright/parcelwright/zzlaws_internal_snapyaml_b1.FnEditsTriangle", spec := "fnEditsTriangle", apart := false }
def FnEditsTriangleSaid : Prop := fnEditsTriangleRow.holds Try.pinned (OpenSpec.ofChange fnEditsTriangleSpec)

/-- ITS FALSE NEIGHBOUR: 'it returns false'. Refute it at one input. -/
def fnEditsTriangleWrong : ChangeSpec := { name := "fnEditsTriangle", fn := fun _ => fun
  | [d1, d2, d3, d4] => { results := [.lit (.bool false)], args := [d1, d2, d3, d4] }
  | _ => none }
def FnEditsTriangleWrongFalsely : Prop := fnEditsTriangleRow.holds Try.pinned (OpenSpec.ofChange fnEditsTriangleWrong)

/-- 'zzlaws_internal_snapyaml_b1.FnEditsBoundsAndCap': WHATEVER THE INPUT: true; the input reads as it did. -/
def fnEditsBoundsAndCapSpec : ChangeSpec := { name := "fnEditsBoundsAndCap", fn := fun _ => fun
  | [d1, d2, d3, d4] => { results := [.lit (.bool true)], args := [d1, d2, d3, d4] }
  | _ => none }
def fnEditsBoundsAndCapRow : OpenClaim := { program := "qxb6001183a", sum := "49793745507047a1af635ebfbe4ff9db8bdf761c2f943fd5f641fbb54f82b2be", func := "example.com/parcelwright/parcelwright/zzlaws_internal_snapyaml_b1.FnEditsBoundsAndCap", spec := "fnEditsBoundsAndCap", apart := false }
def FnEditsBoundsAndCapSaid : Prop := fnEditsBoundsAndCapRow.holds Try.pinned (OpenSpec.ofChange fnEditsBoundsAndCapSpec)

/-- ITS FALSE NEIGHBOUR: 'it returns false'. Refute it at one input. -/
def fnEditsBoundsAndCapWrong : ChangeSpec := { name := "fnEditsBoundsAndCap", fn := fun _ => fun
  | [d1, d2, d3, d4] => { results := [.lit (.bool false)], args := [d1, d2, d3, d4] }
  | _ => none }
def FnEditsBoundsAndCapWrongFalsely : Prop := fnEditsBoundsAndCapRow.holds Try.pinned (OpenSpec.ofChange fnEditsBoundsAndCapWrong)

/-- 'zzlaws_internal_snapyaml_b1.FnPatternSetMatchesGlobs': WHATEVER THE INPUT: true; the input reads as it did. -/
def fnPatternSetMatchesGlobsSpec : ChangeSpec := { name := "fnPatternSetMatchesGlobs", fn := fun _ => fun
  | [d1, d2] => { results := [.lit (.bool true)], args := [d1, d2] }
  | _ => none }
def fnPatternSetMatchesGlobsRow : OpenClaim := { program := "qxb6001183a", sum := "49793745507047a1af635ebfbe4ff9db8bdf761c2f943fd5f641fbb54f82b2be", func := "example.com/parcelwright/parcelwright/zzlaws_internal_snapyaml_b1.FnPatternSetMatchesGlobs", spec := "fnPatternSetMatchesGlobs", inPlace := ["internal/bytealg.CountString", "internal/bytealg.IndexByteString", "internal/bytealg.IndexString"], named := ["internal/bytealg.MaxLen"], apart := false }
def FnPatternSetMatchesGlobsSaid : Prop := fnPatternSetMatchesGlobsRow.holds Try.pinned (OpenSpec.ofChange fnPatternSetMatchesGlobsSpec)

/-- ITS FALSE NEIGHBOUR: 'it returns false'. Refute it at one input. -/
def fnPatternSetMatchesGlobsWrong : ChangeSpec := { name := "fnPatternSetMatchesGlobs", fn := fun _ => fun
  | [d1, d2] => { results := [.lit (.bool false)], args := [d1, d2] }
  | _ => none }
def FnPatternSetMatchesGlobsWrongFalsely : Prop := fnPatternSetMatchesGlobsRow.holds Try.pinned (OpenSpec.ofChange fnPatternSetMatchesGlobsWrong)

/-- 'zzlaws_internal_snapyaml_b1.FnPatternSetLayout': WHATEVER THE INPUT: true; the input reads as it did. -/
def fnPatternSetLayoutSpec : ChangeSpec := { name := "fnPatternSetLayout", fn := fun _ => fun
  | [d] => { results := [.lit (.bool true)], args := [d] }
  | _ => none }
def fnPatternSetLayoutRow : OpenClaim := { program := "qxb6001183a", sum := "49793745507047a1af635ebfbe4ff9db8bdf761c2f943fd5f641fbb54f82b2be", func := "example.com/parcelwright/parcelwright/zzlaws_internal_snapyaml_b1.FnPatternSetLayout", spec := "fnPatternSetLayout", inPlace := ["internal/bytealg.CountString", "internal/bytealg.IndexByteString", "internal/bytealg.IndexString"], named := ["internal/bytealg.MaxLen"], apart := false }
def FnPatternSetLayoutSaid : Prop := fnPatternSetLayoutRow.holds Try.pinned (OpenSpec.ofChange fnPatternSetLayoutSpec)

/-- ITS FALSE NEIGHBOUR: 'it returns false'. Refute it at one input. -/
def fnPatternSetLayoutWrong : ChangeSpec := { name := "fnPatternSetLayout", fn := fun _ => fun
  | [d] => { results := [.lit (.bool false)], args := [d] }
  | _ => none }
def FnPatternSetLayoutWrongFalsely : Prop := fnPatternSetLayoutRow.holds Try.pinned (OpenSpec.ofChange fnPatternSetLayoutWrong)

end Rows
end Go.Proofs.Qxb6001183a
