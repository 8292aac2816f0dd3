/-
  No cell of these rows narrows 'for every input' (looked for: loops, veiled, ifaces, maps, wideKeys, modest, calm, conditions, laid).
  DERIVED. THE GIVEN ROWS OF THIS SEAT. 4 by the template 'for every input the law returns true; each argument reads behind the call as it read before'; 0 by the template 'total and deterministic' (their statements: Qxb6600869aTotals.lean).
  GIVEN WITH THE SEED: the statements are not yours to turn. If you find one false, say at which input.
  Laid BY PROGRAM, IN A SANDBOX (cutbox-rows.mjs): the forced cells as the released guide's own fill.sh prints them over the translation 6388f7213e934404… (all of the seat's roots in one cut). By AI agents, Wed Nov 11 2026. No macro, syntax, notation, axiom, sorry.
-/
import Derived.Test.Qxb6600869aChecked
import GoSem.Claim
import GoSem.ClaimJoined
import GoSem.ClaimMapViews
import Derived.JoinedTies
import Derived.KernelRfl
namespace Go.Proofs.Qxb6600869a
/- THE CELL 'sum', in the pinned program and in every row, IS THE sha256 OF THE DUMP (.gsa) THAT Qxb6600869aProg.lean LOADS. Nothing in Lean hashes anything: it is a label: what it is worth is what the hold of that sum in a sandbox is worth. -/
noncomputable def Try.pinned : Pinned := { name := "qxb6600869a", sum := "6388f7213e934404404439698ab0e61564cc1d49101b41a9b4f5943ad4f456b6", checked := Try.checked }
namespace Rows
def none {H : Type} : Left H := { results := [], args := [] }

/-- 'zzlaws_pkg_grid_b1.FnReceivesFromMatchesRouteRule': WHATEVER THE INPUT: true; the input reads as it did. -/
def fnReceivesFromMatchesRouteRuleSpec : ChangeSpec := { name := "fnReceivesFromMatchesRouteRule", fn := fun _ => fun
  | [d1, d2, d3, d4, d5] => { results := [.lit (.bool true)], args := [d1, d2, d3, d4, d5] }
  | _ => none }
def fnReceivesFromMatchesRouteRuleRow : OpenClaim := { program := "qxb6600869a", sum := "6388f7213e934404404439698ab0e61564cc1d49101b41a9b4f5943ad4f456b6", func := "example.com/seconder/seconder/zzlaws_pkg_grid_b1.FnReceivesFromMatchesRouteRule", spec := "fnReceivesFromMatchesRouteRule", apart := false }
def FnReceivesFromMatchesRouteRuleSaid : Prop := fnReceivesFromMatchesRouteRuleRow.holds Try.pinned (OpenSpec.ofChange fnReceivesFromMatchesRouteRuleSpec)

/-- ITS FALSE NEIGHBOUR: 'it returns false'. Refute it at one input. -/
def fnReceivesFromMatchesRouteRuleWrong : ChangeSpec := { name := "fnReceivesFromMatchesRouteRule", fn := fun _ => fun
  | [d1, d2, d3, d4, d5] => { results := [.lit (.bool false)], args := [d1, d2, d3, d4, d5] }
  | _ => none }
def FnReceivesFromMatchesRouteRuleWrongFalsely : Prop := fnReceivesFromMatchesRouteRuleRow.holds Try.pinned (OpenSpec.ofChange fnReceivesFromMatchesRouteRuleWrong)

/-- 'zzlaws_pkg_grid_b1.FnReceivesFromOverUnionOfGroups': WHATEVER THE INPUT: true; the input reads as it did. -/
def fnReceivesFromOverUnionOfGroupsSpec : ChangeSpec := { name := "fnReceivesFromOverUnionOfGroups", fn := fun _ => fun
  | [d1, d2, d3, d4, d5, d6] => { results := [.lit (.bool true)], args := [d1, d2, d3, d4, d5, d6] }
  | _ => none }
def fnReceivesFromOverUnionOfGroupsRow : OpenClaim := { program := "qxb6600869a", sum := "6388f7213e934404404439698ab0e61564cc1d49101b41a9b4f5943ad4f456b6", func := "example.com/seconder/seconder/zzlaws_pkg_grid_b1.FnReceivesFromOverUnionOfGroups", spec := "fnReceivesFromOverUnionOfGroups", apart := false }
def FnReceivesFromOverUnionOfGroupsSaid : Prop := fnReceivesFromOverUnionOfGroupsRow.holds Try.pinned (OpenSpec.ofChange fnReceivesFromOverUnionOfGroupsSpec)

/-- ITS FALSE NEIGHBOUR: 'it returns false'. Refute it at one input. -/
def fnReceivesFromOverUnionOfGroupsWrong : ChangeSpec := { name := "fnReceivesFromOverUnionOfGroups", fn := fun _ => fun
  | [d1, d2, d3, d4, d5, d6] => { results := [.lit (.bool false)], args := [d1, d2, d3, d4, d5, d6] }
  | _ => none }
def FnReceivesFromOverUnionOfGroupsWrongFalsely : Prop := fnReceivesFromOverUnionOfGroupsRow.holds Try.pinned (OpenSpec.ofChange fnReceivesFromOverUnionOfGroupsWrong)

/-- 'zzlaws_pkg_grid_b1.FnAppendOnPicksLineOutsideGroup': WHATEVER THE INPUT: true; the input reads as it did. -/
def fnAppendOnPicksLineOutsideGroupSpec : ChangeSpec := { name := "fnAppendOnPicksLineOutsideGroup", fn := fun _ => fun
  | [d1, d2, d3, d4, d5, d6, d7, d8] => { results := [.lit (.bool true)], args := [d1, d2, d3, d4, d5, d6, d7, d8] }
  | _ => none }
def fnAppendOnPicksLineOutsideGroupRow : OpenClaim := { program := "qxb6600869a", sum := "6388f7213e934404404439698ab0e61564cc1d49101b41a9b4f5943ad4f456b6", func := "example.com/seconder/seconder/zzlaws_pkg_grid_b1.FnAppendOnPicksLineOutsideGroup", spec := "fnAppendOnPicksLineOutsideGroup", apart := false }
def FnAppendOnPicksLineOutsideGroupSaid : Prop := fnAppendOnPicksLineOutsideGroupRow.holds Try.pinned (OpenSpec.ofChange fnAppendOnPicksLineOutsideGroupSpec)

/-- ITS FALSE NEIGHBOUR: 'it returns false'. Refute it at one input. -/
def fnAppendOnPicksLineOutsideGroupWrong : ChangeSpec := { name := "fnAppendOnPicksLineOutsideGroup", fn := fun _ => fun
  | [d1, d2, d3, d4, d5, d6, d7, d8] => { results := [.lit (.bool false)], args := [d1, d2, d3, d4, d5, d6, d7, d8] }
  | _ => none }
def FnAppendOnPicksLineOutsideGroupWrongFalsely : Prop := fnAppendOnPicksLineOutsideGroupRow.holds Try.pinned (OpenSpec.ofChange fnAppendOnPicksLineOutsideGroupWrong)

/-- 'zzlaws_pkg_grid_b1.FnAppendOnSplitsAtALinePosition': WHATEVER THE INPUT: true; the input reads as it did. -/
def fnAppendOnSplitsAtALinePositionSpec : ChangeSpec := { name := "fnAppendOnSplitsAtALinePosition", fn := fun _ => fun
  | [d1, d2, d3, d4, d5, d6, d7, d8, d9] => { results := [.lit (.bool true)], args := [d1, d2, d3, d4, d5, d6, d7, d8, d9] }
  | _ => none }
def fnAppendOnSplitsAtALinePositionRow : OpenClaim := { program := "qxb6600869a", sum := "6388f7213e934404404439698ab0e61564cc1d49101b41a9b4f5943ad4f456b6", func := "example.com/seconder/seconder/zzlaws_pkg_grid_b1.FnAppendOnSplitsAtALinePosition", spec := "fnAppendOnSplitsAtALinePosition", apart := false }
def FnAppendOnSplitsAtALinePositionSaid : Prop := fnAppendOnSplitsAtALinePositionRow.holds Try.pinned (OpenSpec.ofChange fnAppendOnSplitsAtALinePositionSpec)

/-- ITS FALSE NEIGHBOUR: 'it returns false'. Refute it at one input. -/
def fnAppendOnSplitsAtALinePositionWrong : ChangeSpec := { name := "fnAppendOnSplitsAtALinePosition", fn := fun _ => fun
  | [d1, d2, d3, d4, d5, d6, d7, d8, d9] => { results := [.lit (.bool false)], args := [d1, d2, d3, d4, d5, d6, d7, d8, d9] }
  | _ => none }
def FnAppendOnSplitsAtALinePositionWrongFalsely : Prop := fnAppendOnSplitsAtALinePositionRow.holds Try.pinned (OpenSpec.ofChange fnAppendOnSplitsAtALinePositionWrong)

end Rows
end Go.Proofs.Qxb6600869a
