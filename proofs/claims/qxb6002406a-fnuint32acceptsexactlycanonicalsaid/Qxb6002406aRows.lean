/-
  No cell of these rows narrows 'for every input' (looked for: loops, veiled, ifaces, maps, wideKeys, modest, calm, conditions, laid).
  DERIVED. THE GIVEN ROWS OF THIS SEAT. 7 by the template 'for every input the law returns true; each argument reads behind the call as it read before'; 0 by the template 'total and deterministic' (their statements: Qxb6002406aTotals.lean).
  GIVEN WITH THE SEED: the statements are not yours to turn. If you find one false, say at which input.
  Laid BY PROGRAM, IN A SANDBOX (cutbox-rows.mjs): the forced cells as the released guide's own fill.sh prints them over the translation e5fa31bb239b3e42… (all of the seat's roots in one cut). By AI agents, Wed Nov 11 2026. No macro, syntax, notation, axiom, sorry.
-/
import Derived.Test.Qxb6002406aChecked
import GoSem.Claim
import GoSem.ClaimJoined
import GoSem.ClaimMapViews
import Derived.JoinedTies
import Derived.KernelRfl
namespace Go.Proofs.Qxb6002406a
/- THE CELL 'sum', in the pinned program and in every row, IS THE sha256 OF THE DUMP (.gsa) THAT Qxb6002406aProg.lean LOADS. Nothing in Lean hashes anything: it is a label: what it is worth is what the hold of that sum in a sandbox is worth. -/
noncomputable def Try.pinned : Pinned := { name := "qxb6002406a", sum := "e5fa31bb239b3e42a4fb3049e88d5f207de93484e40487e369296ae5b28a07fb", checked := Try.checked }
namespace Rows
def none {H : Type} : Left H := { results := [], args := [] }

/-- 'zzlaws_internal_der_g1.FnUint32AcceptsExactlyCanonical': WHATEVER THE INPUT: true; the input reads as it did. -/
def fnUint32AcceptsExactlyCanonicalSpec : ChangeSpec := { name := "fnUint32AcceptsExactlyCanonical", fn := fun _ => fun
  | [d] => { results := [.lit (.bool true)], args := [d] }
  | _ => none }
def fnUint32AcceptsExactlyCanonicalRow : OpenClaim := { program := "qxb6002406a", sum := "e5fa31bb239b3e42a4fb3049e88d5f207de93484e40487e369296ae5b28a07fb", func := "example.com/provisor/provisor/zzlaws_internal_der_g1.FnUint32AcceptsExactlyCanonical", spec := "fnUint32AcceptsExactlyCanonical", apart := false }
def FnUint32AcceptsExactlyCanonicalSaid : Prop := fnUint32AcceptsExactlyCanonicalRow.holds Try.pinned (OpenSpec.ofChange fnUint32AcceptsExactlyCanonicalSpec)

/-- ITS FALSE NEIGHBOUR: 'it returns false'. Refute it at one input. -/
def fnUint32AcceptsExactlyCanonicalWrong : ChangeSpec := { name := "fnUint32AcceptsExactlyCanonical", fn := fun _ => fun
  | [d] => { results := [.lit (.bool false)], args := [d] }
  | _ => none }
def FnUint32AcceptsExactlyCanonicalWrongFalsely : Prop := fnUint32AcceptsExactlyCanonicalRow.holds Try.pinned (OpenSpec.ofChange fnUint32AcceptsExactlyCanonicalWrong)

/-- 'zzlaws_internal_der_g1.FnEncodeUint32RoundTrip': WHATEVER THE INPUT: true; the input reads as it did. -/
def fnEncodeUint32RoundTripSpec : ChangeSpec := { name := "fnEncodeUint32RoundTrip", fn := fun _ => fun
  | [d] => { results := [.lit (.bool true)], args := [d] }
  | _ => none }
def fnEncodeUint32RoundTripRow : OpenClaim := { program := "qxb6002406a", sum := "e5fa31bb239b3e42a4fb3049e88d5f207de93484e40487e369296ae5b28a07fb", func := "example.com/provisor/provisor/zzlaws_internal_der_g1.FnEncodeUint32RoundTrip", spec := "fnEncodeUint32RoundTrip", apart := false }
def FnEncodeUint32RoundTripSaid : Prop := fnEncodeUint32RoundTripRow.holds Try.pinned (OpenSpec.ofChange fnEncodeUint32RoundTripSpec)

/-- ITS FALSE NEIGHBOUR: 'it returns false'. Refute it at one input. -/
def fnEncodeUint32RoundTripWrong : ChangeSpec := { name := "fnEncodeUint32RoundTrip", fn := fun _ => fun
  | [d] => { results := [.lit (.bool false)], args := [d] }
  | _ => none }
def FnEncodeUint32RoundTripWrongFalsely : Prop := fnEncodeUint32RoundTripRow.holds Try.pinned (OpenSpec.ofChange fnEncodeUint32RoundTripWrong)

/-- 'zzlaws_internal_der_g1.FnEncodeUint32OrderIsNumeric': WHATEVER THE INPUT: true; the input reads as it did. -/
def fnEncodeUint32OrderIsNumericSpec : ChangeSpec := { name := "fnEncodeUint32OrderIsNumeric", fn := fun _ => fun
  | [d1, d2] => { results := [.lit (.bool true)], args := [d1, d2] }
  | _ => none }
def fnEncodeUint32OrderIsNumericRow : OpenClaim := { program := "qxb6002406a", sum := "e5fa31bb239b3e42a4fb3049e88d5f207de93484e40487e369296ae5b28a07fb", func := "example.com/provisor/provisor/zzlaws_internal_der_g1.FnEncodeUint32OrderIsNumeric", spec := "fnEncodeUint32OrderIsNumeric", apart := false }
def FnEncodeUint32OrderIsNumericSaid : Prop := fnEncodeUint32OrderIsNumericRow.holds Try.pinned (OpenSpec.ofChange fnEncodeUint32OrderIsNumericSpec)

/-- ITS FALSE NEIGHBOUR: 'it returns false'. Refute it at one input. -/
def fnEncodeUint32OrderIsNumericWrong : ChangeSpec := { name := "fnEncodeUint32OrderIsNumeric", fn := fun _ => fun
  | [d1, d2] => { results := [.lit (.bool false)], args := [d1, d2] }
  | _ => none }
def FnEncodeUint32OrderIsNumericWrongFalsely : Prop := fnEncodeUint32OrderIsNumericRow.holds Try.pinned (OpenSpec.ofChange fnEncodeUint32OrderIsNumericWrong)

/-- 'zzlaws_internal_der_g1.FnCheckIntegerAcceptsExactlyShortest': WHATEVER THE INPUT: true; the input reads as it did. -/
def fnCheckIntegerAcceptsExactlyShortestSpec : ChangeSpec := { name := "fnCheckIntegerAcceptsExactlyShortest", fn := fun _ => fun
  | [d] => { results := [.lit (.bool true)], args := [d] }
  | _ => none }
def fnCheckIntegerAcceptsExactlyShortestRow : OpenClaim := { program := "qxb6002406a", sum := "e5fa31bb239b3e42a4fb3049e88d5f207de93484e40487e369296ae5b28a07fb", func := "example.com/provisor/provisor/zzlaws_internal_der_g1.FnCheckIntegerAcceptsExactlyShortest", spec := "fnCheckIntegerAcceptsExactlyShortest", apart := false }
def FnCheckIntegerAcceptsExactlyShortestSaid : Prop := fnCheckIntegerAcceptsExactlyShortestRow.holds Try.pinned (OpenSpec.ofChange fnCheckIntegerAcceptsExactlyShortestSpec)

/-- ITS FALSE NEIGHBOUR: 'it returns false'. Refute it at one input. -/
def fnCheckIntegerAcceptsExactlyShortestWrong : ChangeSpec := { name := "fnCheckIntegerAcceptsExactlyShortest", fn := fun _ => fun
  | [d] => { results := [.lit (.bool false)], args := [d] }
  | _ => none }
def FnCheckIntegerAcceptsExactlyShortestWrongFalsely : Prop := fnCheckIntegerAcceptsExactlyShortestRow.holds Try.pinned (OpenSpec.ofChange fnCheckIntegerAcceptsExactlyShortestWrong)

/-- 'zzlaws_internal_der_g1.FnPrintableIsX680Set': WHATEVER THE INPUT: true; the input reads as it did. -/
def fnPrintableIsX680SetSpec : ChangeSpec := { name := "fnPrintableIsX680Set", fn := fun _ => fun
  | [d] => { results := [.lit (.bool true)], args := [d] }
  | _ => none }
def fnPrintableIsX680SetRow : OpenClaim := { program := "qxb6002406a", sum := "e5fa31bb239b3e42a4fb3049e88d5f207de93484e40487e369296ae5b28a07fb", func := "example.com/provisor/provisor/zzlaws_internal_der_g1.FnPrintableIsX680Set", spec := "fnPrintableIsX680Set", inPlace := ["internal/bytealg.IndexByteString"], apart := false }
def FnPrintableIsX680SetSaid : Prop := fnPrintableIsX680SetRow.holds Try.pinned (OpenSpec.ofChange fnPrintableIsX680SetSpec)

/-- ITS FALSE NEIGHBOUR: 'it returns false'. Refute it at one input. -/
def fnPrintableIsX680SetWrong : ChangeSpec := { name := "fnPrintableIsX680Set", fn := fun _ => fun
  | [d] => { results := [.lit (.bool false)], args := [d] }
  | _ => none }
def FnPrintableIsX680SetWrongFalsely : Prop := fnPrintableIsX680SetRow.holds Try.pinned (OpenSpec.ofChange fnPrintableIsX680SetWrong)

/-- 'zzlaws_internal_walk_g1.FnHasSuffixUnionOfLists': WHATEVER THE INPUT: true; the input reads as it did. -/
def fnHasSuffixUnionOfListsSpec : ChangeSpec := { name := "fnHasSuffixUnionOfLists", fn := fun _ => fun
  | [d1, d2, d3] => { results := [.lit (.bool true)], args := [d1, d2, d3] }
  | _ => none }
def fnHasSuffixUnionOfListsRow : OpenClaim := { program := "qxb6002406a", sum := "e5fa31bb239b3e42a4fb3049e88d5f207de93484e40487e369296ae5b28a07fb", func := "example.com/provisor/provisor/zzlaws_internal_walk_g1.FnHasSuffixUnionOfLists", spec := "fnHasSuffixUnionOfLists", apart := false }
def FnHasSuffixUnionOfListsSaid : Prop := fnHasSuffixUnionOfListsRow.holds Try.pinned (OpenSpec.ofChange fnHasSuffixUnionOfListsSpec)

/-- ITS FALSE NEIGHBOUR: 'it returns false'. Refute it at one input. -/
def fnHasSuffixUnionOfListsWrong : ChangeSpec := { name := "fnHasSuffixUnionOfLists", fn := fun _ => fun
  | [d1, d2, d3] => { results := [.lit (.bool false)], args := [d1, d2, d3] }
  | _ => none }
def FnHasSuffixUnionOfListsWrongFalsely : Prop := fnHasSuffixUnionOfListsRow.holds Try.pinned (OpenSpec.ofChange fnHasSuffixUnionOfListsWrong)

/-- 'zzlaws_internal_walk_g1.FnHasSuffixKeptUnderPrefix': WHATEVER THE INPUT: true; the input reads as it did. -/
def fnHasSuffixKeptUnderPrefixSpec : ChangeSpec := { name := "fnHasSuffixKeptUnderPrefix", fn := fun _ => fun
  | [d1, d2, d3] => { results := [.lit (.bool true)], args := [d1, d2, d3] }
  | _ => none }
def fnHasSuffixKeptUnderPrefixRow : OpenClaim := { program := "qxb6002406a", sum := "e5fa31bb239b3e42a4fb3049e88d5f207de93484e40487e369296ae5b28a07fb", func := "example.com/provisor/provisor/zzlaws_internal_walk_g1.FnHasSuffixKeptUnderPrefix", spec := "fnHasSuffixKeptUnderPrefix", apart := false }
def FnHasSuffixKeptUnderPrefixSaid : Prop := fnHasSuffixKeptUnderPrefixRow.holds Try.pinned (OpenSpec.ofChange fnHasSuffixKeptUnderPrefixSpec)

/-- ITS FALSE NEIGHBOUR: 'it returns false'. Refute it at one input. -/
def fnHasSuffixKeptUnderPrefixWrong : ChangeSpec := { name := "fnHasSuffixKeptUnderPrefix", fn := fun _ => fun
  | [d1, d2, d3] => { results := [.lit (.bool false)], args := [d1, d2, d3] }
  | _ => none }
def FnHasSuffixKeptUnderPrefixWrongFalsely : Prop := fnHasSuffixKeptUnderPrefixRow.holds Try.pinned (OpenSpec.ofChange fnHasSuffixKeptUnderPrefixWrong)

end Rows
end Go.Proofs.Qxb6002406a
