/-
  No cell of these rows narrows 'for every input' (looked for: loops, veiled, ifaces, maps, wideKeys, modest, calm, conditions, laid).
  DERIVED. THE GIVEN ROWS OF THIS SEAT. 6 by the template 'for every input the law returns true; each argument reads behind the call as it read before'; 0 by the template 'total and deterministic' (their statements: Qxb6003570aTotals.lean).
  GIVEN WITH THE SEED: the statements are not yours to turn. If you find one false, say at which input.
  Laid BY PROGRAM, IN A SANDBOX (cutbox-rows.mjs): the forced cells as the released guide's own fill.sh prints them over the translation 577133b47951623d… (all of the seat's roots in one cut). By AI agents, Wed Nov 11 2026. No macro, syntax, notation, axiom, sorry.
-/
import Derived.Test.Qxb6003570aChecked
import GoSem.Claim
import GoSem.ClaimJoined
import GoSem.ClaimMapViews
import Derived.JoinedTies
import Derived.KernelRfl
namespace Go.Proofs.Qxb6003570a
/- THE CELL 'sum', in the pinned program and in every row, IS THE sha256 OF THE DUMP (.gsa) THAT Qxb6003570aProg.lean LOADS. Nothing in Lean hashes anything: it is a label: what it is worth is what the hold of that sum in a sandbox is worth. -/
noncomputable def Try.pinned : Pinned := { name := "qxb6003570a", sum := "577133b47951623df19ee0774443cb3ef52c8a263cc463eaea3f2de66d85c008", checked := Try.checked }
namespace Rows
def none {H : Type} : Left H := { results := [], args := [] }

/-- 'zzlaws_internal_tree_b2.FnFindInvertsAppendPath': WHATEVER THE INPUT: true; the input reads as it did. -/
def fnFindInvertsAppendPathSpec : ChangeSpec := { name := "fnFindInvertsAppendPath", fn := fun _ => fun
  | [d1, d2, d3, d4, d5] => { results := [.lit (.bool true)], args := [d1, d2, d3, d4, d5] }
  | _ => none }
def fnFindInvertsAppendPathRow : OpenClaim := { program := "qxb6003570a", sum := "577133b47951623df19ee0774443cb3ef52c8a263cc463eaea3f2de66d85c008", func := "example.com/parley/parley/zzlaws_internal_tree_b2.FnFindInvertsAppendPath", spec := "fnFindInvertsAppendPath", apart := false }
def FnFindInvertsAppendPathSaid : Prop := fnFindInvertsAppendPathRow.holds Try.pinned (OpenSpec.ofChange fnFindInvertsAppendPathSpec)

/-- ITS FALSE NEIGHBOUR: 'it returns false'. Refute it at one input. -/
def fnFindInvertsAppendPathWrong : ChangeSpec := { name := "fnFindInvertsAppendPath", fn := fun _ => fun
  | [d1, d2, d3, d4, d5] => { results := [.lit (.bool false)], args := [d1, d2, d3, d4, d5] }
  | _ => none }
def FnFindInvertsAppendPathWrongFalsely : Prop := fnFindInvertsAppendPathRow.holds Try.pinned (OpenSpec.ofChange fnFindInvertsAppendPathWrong)

/-- 'zzlaws_internal_tree_b2.FnAppendPathSpellsAName': WHATEVER THE INPUT: true; the input reads as it did. -/
def fnAppendPathSpellsANameSpec : ChangeSpec := { name := "fnAppendPathSpellsAName", fn := fun _ => fun
  | [d1, d2, d3, d4, d5, d6] => { results := [.lit (.bool true)], args := [d1, d2, d3, d4, d5, d6] }
  | _ => none }
def fnAppendPathSpellsANameRow : OpenClaim := { program := "qxb6003570a", sum := "577133b47951623df19ee0774443cb3ef52c8a263cc463eaea3f2de66d85c008", func := "example.com/parley/parley/zzlaws_internal_tree_b2.FnAppendPathSpellsAName", spec := "fnAppendPathSpellsAName", apart := false }
def FnAppendPathSpellsANameSaid : Prop := fnAppendPathSpellsANameRow.holds Try.pinned (OpenSpec.ofChange fnAppendPathSpellsANameSpec)

/-- ITS FALSE NEIGHBOUR: 'it returns false'. Refute it at one input. -/
def fnAppendPathSpellsANameWrong : ChangeSpec := { name := "fnAppendPathSpellsAName", fn := fun _ => fun
  | [d1, d2, d3, d4, d5, d6] => { results := [.lit (.bool false)], args := [d1, d2, d3, d4, d5, d6] }
  | _ => none }
def FnAppendPathSpellsANameWrongFalsely : Prop := fnAppendPathSpellsANameRow.holds Try.pinned (OpenSpec.ofChange fnAppendPathSpellsANameWrong)

/-- 'zzlaws_internal_tree_b2.FnFindAcceptsOnlyCanonicalNames': WHATEVER THE INPUT: true; the input reads as it did. -/
def fnFindAcceptsOnlyCanonicalNamesSpec : ChangeSpec := { name := "fnFindAcceptsOnlyCanonicalNames", fn := fun _ => fun
  | [d1, d2, d3, d4, d5] => { results := [.lit (.bool true)], args := [d1, d2, d3, d4, d5] }
  | _ => none }
def fnFindAcceptsOnlyCanonicalNamesRow : OpenClaim := { program := "qxb6003570a", sum := "577133b47951623df19ee0774443cb3ef52c8a263cc463eaea3f2de66d85c008", func := "example.com/parley/parley/zzlaws_internal_tree_b2.FnFindAcceptsOnlyCanonicalNames", spec := "fnFindAcceptsOnlyCanonicalNames", apart := false }
def FnFindAcceptsOnlyCanonicalNamesSaid : Prop := fnFindAcceptsOnlyCanonicalNamesRow.holds Try.pinned (OpenSpec.ofChange fnFindAcceptsOnlyCanonicalNamesSpec)

/-- ITS FALSE NEIGHBOUR: 'it returns false'. Refute it at one input. -/
def fnFindAcceptsOnlyCanonicalNamesWrong : ChangeSpec := { name := "fnFindAcceptsOnlyCanonicalNames", fn := fun _ => fun
  | [d1, d2, d3, d4, d5] => { results := [.lit (.bool false)], args := [d1, d2, d3, d4, d5] }
  | _ => none }
def FnFindAcceptsOnlyCanonicalNamesWrongFalsely : Prop := fnFindAcceptsOnlyCanonicalNamesRow.holds Try.pinned (OpenSpec.ofChange fnFindAcceptsOnlyCanonicalNamesWrong)

/-- 'zzlaws_internal_tree_b2.FnFindOrdersVertices': WHATEVER THE INPUT: true; the input reads as it did. -/
def fnFindOrdersVerticesSpec : ChangeSpec := { name := "fnFindOrdersVertices", fn := fun _ => fun
  | [d1, d2, d3, d4, d5, d6] => { results := [.lit (.bool true)], args := [d1, d2, d3, d4, d5, d6] }
  | _ => none }
def fnFindOrdersVerticesRow : OpenClaim := { program := "qxb6003570a", sum := "577133b47951623df19ee0774443cb3ef52c8a263cc463eaea3f2de66d85c008", func := "example.com/parley/parley/zzlaws_internal_tree_b2.FnFindOrdersVertices", spec := "fnFindOrdersVertices", apart := false }
def FnFindOrdersVerticesSaid : Prop := fnFindOrdersVerticesRow.holds Try.pinned (OpenSpec.ofChange fnFindOrdersVerticesSpec)

/-- ITS FALSE NEIGHBOUR: 'it returns false'. Refute it at one input. -/
def fnFindOrdersVerticesWrong : ChangeSpec := { name := "fnFindOrdersVertices", fn := fun _ => fun
  | [d1, d2, d3, d4, d5, d6] => { results := [.lit (.bool false)], args := [d1, d2, d3, d4, d5, d6] }
  | _ => none }
def FnFindOrdersVerticesWrongFalsely : Prop := fnFindOrdersVerticesRow.holds Try.pinned (OpenSpec.ofChange fnFindOrdersVerticesWrong)

/-- 'zzlaws_internal_tree_b2.FnEndsNameTheLastProcessor': WHATEVER THE INPUT: true; the input reads as it did. -/
def fnEndsNameTheLastProcessorSpec : ChangeSpec := { name := "fnEndsNameTheLastProcessor", fn := fun _ => fun
  | [d1, d2, d3, d4] => { results := [.lit (.bool true)], args := [d1, d2, d3, d4] }
  | _ => none }
def fnEndsNameTheLastProcessorRow : OpenClaim := { program := "qxb6003570a", sum := "577133b47951623df19ee0774443cb3ef52c8a263cc463eaea3f2de66d85c008", func := "example.com/parley/parley/zzlaws_internal_tree_b2.FnEndsNameTheLastProcessor", spec := "fnEndsNameTheLastProcessor", recurses := true, apart := false }
def FnEndsNameTheLastProcessorSaid : Prop := fnEndsNameTheLastProcessorRow.holds Try.pinned (OpenSpec.ofChange fnEndsNameTheLastProcessorSpec)

/-- ITS FALSE NEIGHBOUR: 'it returns false'. Refute it at one input. -/
def fnEndsNameTheLastProcessorWrong : ChangeSpec := { name := "fnEndsNameTheLastProcessor", fn := fun _ => fun
  | [d1, d2, d3, d4] => { results := [.lit (.bool false)], args := [d1, d2, d3, d4] }
  | _ => none }
def FnEndsNameTheLastProcessorWrongFalsely : Prop := fnEndsNameTheLastProcessorRow.holds Try.pinned (OpenSpec.ofChange fnEndsNameTheLastProcessorWrong)

/-- 'zzlaws_internal_tree_b2.FnEndsOfSiblingsRise': WHATEVER THE INPUT: true; the input reads as it did. -/
def fnEndsOfSiblingsRiseSpec : ChangeSpec := { name := "fnEndsOfSiblingsRise", fn := fun _ => fun
  | [d1, d2, d3, d4] => { results := [.lit (.bool true)], args := [d1, d2, d3, d4] }
  | _ => none }
def fnEndsOfSiblingsRiseRow : OpenClaim := { program := "qxb6003570a", sum := "577133b47951623df19ee0774443cb3ef52c8a263cc463eaea3f2de66d85c008", func := "example.com/parley/parley/zzlaws_internal_tree_b2.FnEndsOfSiblingsRise", spec := "fnEndsOfSiblingsRise", recurses := true, apart := false }
def FnEndsOfSiblingsRiseSaid : Prop := fnEndsOfSiblingsRiseRow.holds Try.pinned (OpenSpec.ofChange fnEndsOfSiblingsRiseSpec)

/-- ITS FALSE NEIGHBOUR: 'it returns false'. Refute it at one input. -/
def fnEndsOfSiblingsRiseWrong : ChangeSpec := { name := "fnEndsOfSiblingsRise", fn := fun _ => fun
  | [d1, d2, d3, d4] => { results := [.lit (.bool false)], args := [d1, d2, d3, d4] }
  | _ => none }
def FnEndsOfSiblingsRiseWrongFalsely : Prop := fnEndsOfSiblingsRiseRow.holds Try.pinned (OpenSpec.ofChange fnEndsOfSiblingsRiseWrong)

end Rows
end Go.Proofs.Qxb6003570a
