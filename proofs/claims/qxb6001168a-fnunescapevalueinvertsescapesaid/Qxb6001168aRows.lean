/-
  No cell of these rows narrows 'for every input' (looked for: loops, veiled, ifaces, maps, wideKeys, modest, calm, conditions, laid).
  DERIVED. THE GIVEN ROWS OF THIS SEAT. 3 by the template 'for every input the law returns true; each argument reads behind the call as it read before'; 0 by the template 'total and deterministic' (their statements: Qxb6001168aTotals.lean).
  GIVEN WITH THE SEED: the statements are not yours to turn. If you find one false, say at which input.
  Laid BY PROGRAM, IN A SANDBOX (cutbox-rows.mjs): the forced cells as the released guide's own fill.sh prints them over the translation f6c838760d31f7e0… (all of the seat's roots in one cut). By AI agents, Wed Nov 11 2026. No macro, syntax, notation, axiom, sorry.
-/
import Derived.Test.Qxb6001168aChecked
import GoSem.Claim
import GoSem.ClaimJoined
import GoSem.ClaimMapViews
import Derived.JoinedTies
import Derived.KernelRfl
namespace Go.Proofs.Qxb6001168a
/- THE CELL 'sum', in the pinned program and in every row, IS THE sha256 OF THE DUMP (.gsa) THAT Qxb6001168aProg.lean LOADS. Nothing in Lean hashes anything: it is a label: what it is worth is what the hold of that sum in a sandbox is worth. -/
noncomputable def Try.pinned : Pinned := { name := "qxb6001168a", sum := "f6c838760d31f7e0038595d112beb3975261e062d904ca45d5b90e869b612f6a", checked := Try.checked }
namespace Rows
def none {H : Type} : Left H := { results := [], args := [] }

/-- 'zzlaws_pkg_authz_b1.FnUnescapeValueInvertsEscape': WHATEVER THE INPUT: true; the input reads as it did. -/
def fnUnescapeValueInvertsEscapeSpec : ChangeSpec := { name := "fnUnescapeValueInvertsEscape", fn := fun _ => fun
  | [d] => { results := [.lit (.bool true)], args := [d] }
  | _ => none }
def fnUnescapeValueInvertsEscapeRow : OpenClaim := { program := "qxb6001168a", sum := "f6c838760d31f7e0038595d112beb3975261e062d904ca45d5b90e869b612f6a", func := "example.com/stern-gate/stern-gate/zzlaws_pkg_authz_b1.FnUnescapeValueInvertsEscape", spec := "fnUnescapeValueInvertsEscape", inPlace := ["internal/bytealg.IndexByteString", "internal/abi.NoEscape"], apart := false }
def FnUnescapeValueInvertsEscapeSaid : Prop := fnUnescapeValueInvertsEscapeRow.holds Try.pinned (OpenSpec.ofChange fnUnescapeValueInvertsEscapeSpec)

/-- ITS FALSE NEIGHBOUR: 'it returns false'. Refute it at one input. -/
def fnUnescapeValueInvertsEscapeWrong : ChangeSpec := { name := "fnUnescapeValueInvertsEscape", fn := fun _ => fun
  | [d] => { results := [.lit (.bool false)], args := [d] }
  | _ => none }
def FnUnescapeValueInvertsEscapeWrongFalsely : Prop := fnUnescapeValueInvertsEscapeRow.holds Try.pinned (OpenSpec.ofChange fnUnescapeValueInvertsEscapeWrong)

/-- 'zzlaws_pkg_authz_b1.FnUnescapeValueRefusals': WHATEVER THE INPUT: true; the input reads as it did. -/
def fnUnescapeValueRefusalsSpec : ChangeSpec := { name := "fnUnescapeValueRefusals", fn := fun _ => fun
  | [d1, d2, d3] => { results := [.lit (.bool true)], args := [d1, d2, d3] }
  | _ => none }
def fnUnescapeValueRefusalsRow : OpenClaim := { program := "qxb6001168a", sum := "f6c838760d31f7e0038595d112beb3975261e062d904ca45d5b90e869b612f6a", func := "example.com/stern-gate/stern-gate/zzlaws_pkg_authz_b1.FnUnescapeValueRefusals", spec := "fnUnescapeValueRefusals", inPlace := ["internal/bytealg.IndexByteString", "internal/abi.NoEscape"], apart := false }
def FnUnescapeValueRefusalsSaid : Prop := fnUnescapeValueRefusalsRow.holds Try.pinned (OpenSpec.ofChange fnUnescapeValueRefusalsSpec)

/-- ITS FALSE NEIGHBOUR: 'it returns false'. Refute it at one input. -/
def fnUnescapeValueRefusalsWrong : ChangeSpec := { name := "fnUnescapeValueRefusals", fn := fun _ => fun
  | [d1, d2, d3] => { results := [.lit (.bool false)], args := [d1, d2, d3] }
  | _ => none }
def FnUnescapeValueRefusalsWrongFalsely : Prop := fnUnescapeValueRefusalsRow.holds Try.pinned (OpenSpec.ofChange fnUnescapeValueRefusalsWrong)

/-- 'zzlaws_pkg_authz_b1.FnUnescapeValueConcat': WHATEVER THE INPUT: true; the input reads as it did. -/
def fnUnescapeValueConcatSpec : ChangeSpec := { name := "fnUnescapeValueConcat", fn := fun _ => fun
  | [d1, d2] => { results := [.lit (.bool true)], args := [d1, d2] }
  | _ => none }
def fnUnescapeValueConcatRow : OpenClaim := { program := "qxb6001168a", sum := "f6c838760d31f7e0038595d112beb3975261e062d904ca45d5b90e869b612f6a", func := "example.com/stern-gate/stern-gate/zzlaws_pkg_authz_b1.FnUnescapeValueConcat", spec := "fnUnescapeValueConcat", inPlace := ["internal/bytealg.IndexByteString", "internal/abi.NoEscape"], apart := false }
def FnUnescapeValueConcatSaid : Prop := fnUnescapeValueConcatRow.holds Try.pinned (OpenSpec.ofChange fnUnescapeValueConcatSpec)

/-- ITS FALSE NEIGHBOUR: 'it returns false'. Refute it at one input. -/
def fnUnescapeValueConcatWrong : ChangeSpec := { name := "fnUnescapeValueConcat", fn := fun _ => fun
  | [d1, d2] => { results := [.lit (.bool false)], args := [d1, d2] }
  | _ => none }
def FnUnescapeValueConcatWrongFalsely : Prop := fnUnescapeValueConcatRow.holds Try.pinned (OpenSpec.ofChange fnUnescapeValueConcatWrong)

end Rows
end Go.Proofs.Qxb6001168a
