/-
  No cell of these rows narrows 'for every input' (looked for: loops, veiled, ifaces, maps, wideKeys, modest, calm, conditions, laid).
  DERIVED. THE GIVEN ROWS OF THIS SEAT. 2 by the template 'for every input the law returns true; each argument reads behind the call as it read before'; 0 by the template 'total and deterministic' (their statements: Qxb6601598aTotals.lean).
  GIVEN WITH THE SEED: the statements are not yours to turn. If you find one false, say at which input.
  Laid BY PROGRAM, IN A SANDBOX (cutbox-rows.mjs): the forced cells as the released guide's own fill.sh prints them over the translation 5920242f0075be14… (all of the seat's roots in one cut). By AI agents, Wed Nov 11 2026. No macro, syntax, notation, axiom, sorry.
-/
import Derived.Test.Qxb6601598aChecked
import GoSem.Claim
import GoSem.ClaimJoined
import GoSem.ClaimMapViews
import Derived.JoinedTies
import Derived.KernelRfl
namespace Go.Proofs.Qxb6601598a
/- THE CELL 'sum', in the pinned program and in every row, IS THE sha256 OF THE DUMP (.gsa) THAT Qxb6601598aProg.lean LOADS. Nothing in Lean hashes anything: it is a label: what it is worth is what the hold of that sum in a sandbox is worth. -/
noncomputable def Try.pinned : Pinned := { name := "qxb6601598a", sum := "5920242f0075be14f5124ed7a03af1b9d0ae9ca5d54f5bb929c6e757629efe49", checked := Try.checked }
namespace Rows
def none {H : Type} : Left H := { results := [], args := [] }

/-- 'zzlaws_pkg_layout_b1.FnHashUnwindsToOffsetBasis': WHATEVER THE INPUT: true; the input reads as it did. -/
def fnHashUnwindsToOffsetBasisSpec : ChangeSpec := { name := "fnHashUnwindsToOffsetBasis", fn := fun _ => fun
  | [d] => { results := [.lit (.bool true)], args := [d] }
  | _ => none }
def fnHashUnwindsToOffsetBasisRow : OpenClaim := { program := "qxb6601598a", sum := "5920242f0075be14f5124ed7a03af1b9d0ae9ca5d54f5bb929c6e757629efe49", func := "example.com/cardinality/cardinality/zzlaws_pkg_layout_b1.FnHashUnwindsToOffsetBasis", spec := "fnHashUnwindsToOffsetBasis", apart := false }
def FnHashUnwindsToOffsetBasisSaid : Prop := fnHashUnwindsToOffsetBasisRow.holds Try.pinned (OpenSpec.ofChange fnHashUnwindsToOffsetBasisSpec)

/-- ITS FALSE NEIGHBOUR: 'it returns false'. Refute it at one input. -/
def fnHashUnwindsToOffsetBasisWrong : ChangeSpec := { name := "fnHashUnwindsToOffsetBasis", fn := fun _ => fun
  | [d] => { results := [.lit (.bool false)], args := [d] }
  | _ => none }
def FnHashUnwindsToOffsetBasisWrongFalsely : Prop := fnHashUnwindsToOffsetBasisRow.holds Try.pinned (OpenSpec.ofChange fnHashUnwindsToOffsetBasisWrong)

/-- 'zzlaws_pkg_layout_b1.FnHashSeparatesOneByteSubstitutions': WHATEVER THE INPUT: true; the input reads as it did. -/
def fnHashSeparatesOneByteSubstitutionsSpec : ChangeSpec := { name := "fnHashSeparatesOneByteSubstitutions", fn := fun _ => fun
  | [d1, d2, d3] => { results := [.lit (.bool true)], args := [d1, d2, d3] }
  | _ => none }
def fnHashSeparatesOneByteSubstitutionsRow : OpenClaim := { program := "qxb6601598a", sum := "5920242f0075be14f5124ed7a03af1b9d0ae9ca5d54f5bb929c6e757629efe49", func := "example.com/cardinality/cardinality/zzlaws_pkg_layout_b1.FnHashSeparatesOneByteSubstitutions", spec := "fnHashSeparatesOneByteSubstitutions", apart := false }
def FnHashSeparatesOneByteSubstitutionsSaid : Prop := fnHashSeparatesOneByteSubstitutionsRow.holds Try.pinned (OpenSpec.ofChange fnHashSeparatesOneByteSubstitutionsSpec)

/-- ITS FALSE NEIGHBOUR: 'it returns false'. Refute it at one input. -/
def fnHashSeparatesOneByteSubstitutionsWrong : ChangeSpec := { name := "fnHashSeparatesOneByteSubstitutions", fn := fun _ => fun
  | [d1, d2, d3] => { results := [.lit (.bool false)], args := [d1, d2, d3] }
  | _ => none }
def FnHashSeparatesOneByteSubstitutionsWrongFalsely : Prop := fnHashSeparatesOneByteSubstitutionsRow.holds Try.pinned (OpenSpec.ofChange fnHashSeparatesOneByteSubstitutionsWrong)

end Rows
end Go.Proofs.Qxb6601598a
