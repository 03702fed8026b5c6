/-
  No cell of these rows narrows 'for every input' (looked for: loops, veiled, ifaces, maps, wideKeys, modest, calm, conditions, laid).
  DERIVED. THE GIVEN ROWS OF THIS SEAT. 2 by the template 'for every input the law returns true; each argument reads behind the call as it read before'; 0 by the template 'total and deterministic' (their statements: Qxb6002408aTotals.lean).
  GIVEN WITH THE SEED: the statements are not yours to turn. If you find one false, say at which input.
  Laid BY PROGRAM, IN A SANDBOX (cutbox-rows.mjs): the forced cells as the released guide's own fill.sh prints them over the translation 6fc9537d99e1ad4f… (all of the seat's roots in one cut). By AI agents, Wed Nov 11 2026. No macro, syntax, notation, axiom, sorry.
-/
import Derived.Test.Qxb6002408aChecked
import GoSem.Claim
import GoSem.ClaimJoined
import GoSem.ClaimMapViews
import Derived.JoinedTies
import Derived.KernelRfl
namespace Go.Proofs.Qxb6002408a
/- THE CELL 'sum', in the pinned program and in every row, IS THE sha256 OF THE DUMP (.gsa) THAT Qxb6002408aProg.lean LOADS. Nothing in Lean hashes anything: it is a label: what it is worth is what the hold of that sum in a sandbox is worth. -/
noncomputable def Try.pinned : Pinned := { name := "qxb6002408a", sum := "6fc9537d99e1ad4f212cd26ca2fd17bc98b79a02fe0166a7686594f8218525e0", checked := Try.checked }
namespace Rows
def none {H : Type} : Left H := { results := [], args := [] }

/-- 'zzlaws_internal_der_f1.FnEncodeOfPartsIsEncodeOfTheJoin': WHATEVER THE INPUT: true; the input reads as it did. -/
def fnEncodeOfPartsIsEncodeOfTheJoinSpec : ChangeSpec := { name := "fnEncodeOfPartsIsEncodeOfTheJoin", fn := fun _ => fun
  | [d1, d2, d3] => { results := [.lit (.bool true)], args := [d1, d2, d3] }
  | _ => none }
def fnEncodeOfPartsIsEncodeOfTheJoinRow : OpenClaim := { program := "qxb6002408a", sum := "6fc9537d99e1ad4f212cd26ca2fd17bc98b79a02fe0166a7686594f8218525e0", func := "example.com/provisor/provisor/zzlaws_internal_der_f1.FnEncodeOfPartsIsEncodeOfTheJoin", spec := "fnEncodeOfPartsIsEncodeOfTheJoin", apart := false }
def FnEncodeOfPartsIsEncodeOfTheJoinSaid : Prop := fnEncodeOfPartsIsEncodeOfTheJoinRow.holds Try.pinned (OpenSpec.ofChange fnEncodeOfPartsIsEncodeOfTheJoinSpec)

/-- ITS FALSE NEIGHBOUR: 'it returns false'. Refute it at one input. -/
def fnEncodeOfPartsIsEncodeOfTheJoinWrong : ChangeSpec := { name := "fnEncodeOfPartsIsEncodeOfTheJoin", fn := fun _ => fun
  | [d1, d2, d3] => { results := [.lit (.bool false)], args := [d1, d2, d3] }
  | _ => none }
def FnEncodeOfPartsIsEncodeOfTheJoinWrongFalsely : Prop := fnEncodeOfPartsIsEncodeOfTheJoinRow.holds Try.pinned (OpenSpec.ofChange fnEncodeOfPartsIsEncodeOfTheJoinWrong)

/-- 'zzlaws_internal_der_f1.FnEncodeHeaderIsTheShortestLength': WHATEVER THE INPUT: true; the input reads as it did. -/
def fnEncodeHeaderIsTheShortestLengthSpec : ChangeSpec := { name := "fnEncodeHeaderIsTheShortestLength", fn := fun _ => fun
  | [d1, d2, d3] => { results := [.lit (.bool true)], args := [d1, d2, d3] }
  | _ => none }
def fnEncodeHeaderIsTheShortestLengthRow : OpenClaim := { program := "qxb6002408a", sum := "6fc9537d99e1ad4f212cd26ca2fd17bc98b79a02fe0166a7686594f8218525e0", func := "example.com/provisor/provisor/zzlaws_internal_der_f1.FnEncodeHeaderIsTheShortestLength", spec := "fnEncodeHeaderIsTheShortestLength", apart := false }
def FnEncodeHeaderIsTheShortestLengthSaid : Prop := fnEncodeHeaderIsTheShortestLengthRow.holds Try.pinned (OpenSpec.ofChange fnEncodeHeaderIsTheShortestLengthSpec)

/-- ITS FALSE NEIGHBOUR: 'it returns false'. Refute it at one input. -/
def fnEncodeHeaderIsTheShortestLengthWrong : ChangeSpec := { name := "fnEncodeHeaderIsTheShortestLength", fn := fun _ => fun
  | [d1, d2, d3] => { results := [.lit (.bool false)], args := [d1, d2, d3] }
  | _ => none }
def FnEncodeHeaderIsTheShortestLengthWrongFalsely : Prop := fnEncodeHeaderIsTheShortestLengthRow.holds Try.pinned (OpenSpec.ofChange fnEncodeHeaderIsTheShortestLengthWrong)

end Rows
end Go.Proofs.Qxb6002408a
