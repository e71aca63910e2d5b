/-
  No cell of these rows narrows 'for every input' (looked for: loops, veiled, ifaces, maps, wideKeys, modest, calm, conditions, laid).
  DERIVED. THE GIVEN ROWS OF THIS SEAT. 3 by the template 'for every input the law returns true; each argument reads behind the call as it read before'; 0 by the template 'total and deterministic' (their statements: Qxb6001399aTotals.lean).
  GIVEN WITH THE SEED: the statements are not yours to turn. If you find one false, say at which input.
  Laid BY PROGRAM, IN A SANDBOX (cutbox-rows.mjs): the forced cells as the released guide's own fill.sh prints them over the translation 51822017829f02b0… (all of the seat's roots in one cut). By AI agents, Wed Nov 11 2026. No macro, syntax, notation, axiom, sorry.
-/
import Derived.Test.Qxb6001399aChecked
import GoSem.Claim
import GoSem.ClaimJoined
import GoSem.ClaimMapViews
import Derived.JoinedTies
import Derived.KernelRfl
namespace Go.Proofs.Qxb6001399a
/- THE CELL 'sum', in the pinned program and in every row, IS THE sha256 OF THE DUMP (.gsa) THAT Qxb6001399aProg.lean LOADS. Nothing in Lean hashes anything: it is a label: what it is worth is what the hold of that sum in a sandbox is worth. -/
noncomputable def Try.pinned : Pinned := { name := "qxb6001399a", sum := "51822017829f02b0129a2f200b64dbf01729393dfd7b7ce77b49d70f1e228a5d", checked := Try.checked }
namespace Rows
def none {H : Type} : Left H := { results := [], args := [] }

/-- 'zzlaws_internal_registry_b1.FnValueQuotedRoundTrip': WHATEVER THE INPUT: true; the input reads as it did. -/
def fnValueQuotedRoundTripSpec : ChangeSpec := { name := "fnValueQuotedRoundTrip", fn := fun _ => fun
  | [d1, d2, d3] => { results := [.lit (.bool true)], args := [d1, d2, d3] }
  | _ => none }
def fnValueQuotedRoundTripRow : OpenClaim := { program := "qxb6001399a", sum := "51822017829f02b0129a2f200b64dbf01729393dfd7b7ce77b49d70f1e228a5d", func := "example.com/stevedore/stevedore/zzlaws_internal_registry_b1.FnValueQuotedRoundTrip", spec := "fnValueQuotedRoundTrip", inPlace := ["internal/bytealg.IndexByteString", "internal/abi.NoEscape"], apart := false }
def FnValueQuotedRoundTripSaid : Prop := fnValueQuotedRoundTripRow.holds Try.pinned (OpenSpec.ofChange fnValueQuotedRoundTripSpec)

/-- ITS FALSE NEIGHBOUR: 'it returns false'. Refute it at one input. -/
def fnValueQuotedRoundTripWrong : ChangeSpec := { name := "fnValueQuotedRoundTrip", fn := fun _ => fun
  | [d1, d2, d3] => { results := [.lit (.bool false)], args := [d1, d2, d3] }
  | _ => none }
def FnValueQuotedRoundTripWrongFalsely : Prop := fnValueQuotedRoundTripRow.holds Try.pinned (OpenSpec.ofChange fnValueQuotedRoundTripWrong)

/-- 'zzlaws_internal_registry_b1.FnValueTokenRoundTrip': WHATEVER THE INPUT: true; the input reads as it did. -/
def fnValueTokenRoundTripSpec : ChangeSpec := { name := "fnValueTokenRoundTrip", fn := fun _ => fun
  | [d1, d2] => { results := [.lit (.bool true)], args := [d1, d2] }
  | _ => none }
def fnValueTokenRoundTripRow : OpenClaim := { program := "qxb6001399a", sum := "51822017829f02b0129a2f200b64dbf01729393dfd7b7ce77b49d70f1e228a5d", func := "example.com/stevedore/stevedore/zzlaws_internal_registry_b1.FnValueTokenRoundTrip", spec := "fnValueTokenRoundTrip", inPlace := ["internal/bytealg.IndexByteString", "internal/abi.NoEscape"], apart := false }
def FnValueTokenRoundTripSaid : Prop := fnValueTokenRoundTripRow.holds Try.pinned (OpenSpec.ofChange fnValueTokenRoundTripSpec)

/-- ITS FALSE NEIGHBOUR: 'it returns false'. Refute it at one input. -/
def fnValueTokenRoundTripWrong : ChangeSpec := { name := "fnValueTokenRoundTrip", fn := fun _ => fun
  | [d1, d2] => { results := [.lit (.bool false)], args := [d1, d2] }
  | _ => none }
def FnValueTokenRoundTripWrongFalsely : Prop := fnValueTokenRoundTripRow.holds Try.pinned (OpenSpec.ofChange fnValueTokenRoundTripWrong)

/-- 'zzlaws_internal_registry_b1.FnValueAdvancesWithinBounds': WHATEVER THE INPUT: true; the input reads as it did. -/
def fnValueAdvancesWithinBoundsSpec : ChangeSpec := { name := "fnValueAdvancesWithinBounds", fn := fun _ => fun
  | [d1, d2] => { results := [.lit (.bool true)], args := [d1, d2] }
  | _ => none }
def fnValueAdvancesWithinBoundsRow : OpenClaim := { program := "qxb6001399a", sum := "51822017829f02b0129a2f200b64dbf01729393dfd7b7ce77b49d70f1e228a5d", func := "example.com/stevedore/stevedore/zzlaws_internal_registry_b1.FnValueAdvancesWithinBounds", spec := "fnValueAdvancesWithinBounds", inPlace := ["internal/bytealg.IndexByteString", "internal/abi.NoEscape"], apart := false }
def FnValueAdvancesWithinBoundsSaid : Prop := fnValueAdvancesWithinBoundsRow.holds Try.pinned (OpenSpec.ofChange fnValueAdvancesWithinBoundsSpec)

/-- ITS FALSE NEIGHBOUR: 'it returns false'. Refute it at one input. -/
def fnValueAdvancesWithinBoundsWrong : ChangeSpec := { name := "fnValueAdvancesWithinBounds", fn := fun _ => fun
  | [d1, d2] => { results := [.lit (.bool false)], args := [d1, d2] }
  | _ => none }
def FnValueAdvancesWithinBoundsWrongFalsely : Prop := fnValueAdvancesWithinBoundsRow.holds Try.pinned (OpenSpec.ofChange fnValueAdvancesWithinBoundsWrong)

end Rows
end Go.Proofs.Qxb6001399a
