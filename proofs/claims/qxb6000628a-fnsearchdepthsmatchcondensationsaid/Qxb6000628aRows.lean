/-
  No cell of these rows narrows 'for every input' (looked for: loops, veiled, ifaces, maps, wideKeys, modest, calm, conditions, laid).
  DERIVED. THE GIVEN ROWS OF THIS SEAT. 6 by the template 'for every input the law returns true; each argument reads behind the call as it read before'; 0 by the template 'total and deterministic' (their statements: Qxb6000628aTotals.lean).
  GIVEN WITH THE SEED: the statements are not yours to turn. If you find one false, say at which input.
  Laid BY PROGRAM, IN A SANDBOX (cutbox-rows.mjs): the forced cells as the released guide's own fill.sh prints them over the translation 42e70c762e3d79e2… (all of the seat's roots in one cut). By AI agents, Wed Nov 11 2026. No macro, syntax, notation, axiom, sorry.
-/
import Derived.Test.Qxb6000628aChecked
import GoSem.Claim
import GoSem.ClaimJoined
import GoSem.ClaimMapViews
import Derived.JoinedTies
import Derived.KernelRfl
namespace Go.Proofs.Qxb6000628a
/- THE CELL 'sum', in the pinned program and in every row, IS THE sha256 OF THE DUMP (.gsa) THAT Qxb6000628aProg.lean LOADS. Nothing in Lean hashes anything: it is a label: what it is worth is what the hold of that sum in a sandbox is worth. -/
noncomputable def Try.pinned : Pinned := { name := "qxb6000628a", sum := "42e70c762e3d79e203bd57da5a5ef26b8cb77973167fb678c026cc4da028350a", checked := Try.checked }
namespace Rows
def none {H : Type} : Left H := { results := [], args := [] }

/-- 'zzlaws_root_b1.FnAddLinkRolesInOrder': WHATEVER THE INPUT: true; the input reads as it did. -/
def fnAddLinkRolesInOrderSpec : ChangeSpec := { name := "fnAddLinkRolesInOrder", fn := fun _ => fun
  | [d1, d2, d3, d4] => { results := [.lit (.bool true)], args := [d1, d2, d3, d4] }
  | _ => none }
def fnAddLinkRolesInOrderRow : OpenClaim := { program := "qxb6000628a", sum := "42e70c762e3d79e203bd57da5a5ef26b8cb77973167fb678c026cc4da028350a", func := "example.com/doberman/doberman/zzlaws_root_b1.FnAddLinkRolesInOrder", spec := "fnAddLinkRolesInOrder", apart := false }
def FnAddLinkRolesInOrderSaid : Prop := fnAddLinkRolesInOrderRow.holds Try.pinned (OpenSpec.ofChange fnAddLinkRolesInOrderSpec)

/-- ITS FALSE NEIGHBOUR: 'it returns false'. Refute it at one input. -/
def fnAddLinkRolesInOrderWrong : ChangeSpec := { name := "fnAddLinkRolesInOrder", fn := fun _ => fun
  | [d1, d2, d3, d4] => { results := [.lit (.bool false)], args := [d1, d2, d3, d4] }
  | _ => none }
def FnAddLinkRolesInOrderWrongFalsely : Prop := fnAddLinkRolesInOrderRow.holds Try.pinned (OpenSpec.ofChange fnAddLinkRolesInOrderWrong)

/-- 'zzlaws_root_b1.FnAddLinkHandedRolesStayPut': WHATEVER THE INPUT: true; the input reads as it did. -/
def fnAddLinkHandedRolesStayPutSpec : ChangeSpec := { name := "fnAddLinkHandedRolesStayPut", fn := fun _ => fun
  | [d1, d2, d3, d4] => { results := [.lit (.bool true)], args := [d1, d2, d3, d4] }
  | _ => none }
def fnAddLinkHandedRolesStayPutRow : OpenClaim := { program := "qxb6000628a", sum := "42e70c762e3d79e203bd57da5a5ef26b8cb77973167fb678c026cc4da028350a", func := "example.com/doberman/doberman/zzlaws_root_b1.FnAddLinkHandedRolesStayPut", spec := "fnAddLinkHandedRolesStayPut", apart := false }
def FnAddLinkHandedRolesStayPutSaid : Prop := fnAddLinkHandedRolesStayPutRow.holds Try.pinned (OpenSpec.ofChange fnAddLinkHandedRolesStayPutSpec)

/-- ITS FALSE NEIGHBOUR: 'it returns false'. Refute it at one input. -/
def fnAddLinkHandedRolesStayPutWrong : ChangeSpec := { name := "fnAddLinkHandedRolesStayPut", fn := fun _ => fun
  | [d1, d2, d3, d4] => { results := [.lit (.bool false)], args := [d1, d2, d3, d4] }
  | _ => none }
def FnAddLinkHandedRolesStayPutWrongFalsely : Prop := fnAddLinkHandedRolesStayPutRow.holds Try.pinned (OpenSpec.ofChange fnAddLinkHandedRolesStayPutWrong)

/-- 'zzlaws_root_b1.FnSearchDepthsMatchCondensation': WHATEVER THE INPUT: true; the input reads as it did. -/
def fnSearchDepthsMatchCondensationSpec : ChangeSpec := { name := "fnSearchDepthsMatchCondensation", fn := fun _ => fun
  | [d1, d2, d3] => { results := [.lit (.bool true)], args := [d1, d2, d3] }
  | _ => none }
def fnSearchDepthsMatchCondensationRow : OpenClaim := { program := "qxb6000628a", sum := "42e70c762e3d79e203bd57da5a5ef26b8cb77973167fb678c026cc4da028350a", func := "example.com/doberman/doberman/zzlaws_root_b1.FnSearchDepthsMatchCondensation", spec := "fnSearchDepthsMatchCondensation", apart := false }
def FnSearchDepthsMatchCondensationSaid : Prop := fnSearchDepthsMatchCondensationRow.holds Try.pinned (OpenSpec.ofChange fnSearchDepthsMatchCondensationSpec)

/-- ITS FALSE NEIGHBOUR: 'it returns false'. Refute it at one input. -/
def fnSearchDepthsMatchCondensationWrong : ChangeSpec := { name := "fnSearchDepthsMatchCondensation", fn := fun _ => fun
  | [d1, d2, d3] => { results := [.lit (.bool false)], args := [d1, d2, d3] }
  | _ => none }
def FnSearchDepthsMatchCondensationWrongFalsely : Prop := fnSearchDepthsMatchCondensationRow.holds Try.pinned (OpenSpec.ofChange fnSearchDepthsMatchCondensationWrong)

/-- 'zzlaws_root_b1.FnSearchDeeperThanEachRole': WHATEVER THE INPUT: true; the input reads as it did. -/
def fnSearchDeeperThanEachRoleSpec : ChangeSpec := { name := "fnSearchDeeperThanEachRole", fn := fun _ => fun
  | [d1, d2, d3] => { results := [.lit (.bool true)], args := [d1, d2, d3] }
  | _ => none }
def fnSearchDeeperThanEachRoleRow : OpenClaim := { program := "qxb6000628a", sum := "42e70c762e3d79e203bd57da5a5ef26b8cb77973167fb678c026cc4da028350a", func := "example.com/doberman/doberman/zzlaws_root_b1.FnSearchDeeperThanEachRole", spec := "fnSearchDeeperThanEachRole", apart := false }
def FnSearchDeeperThanEachRoleSaid : Prop := fnSearchDeeperThanEachRoleRow.holds Try.pinned (OpenSpec.ofChange fnSearchDeeperThanEachRoleSpec)

/-- ITS FALSE NEIGHBOUR: 'it returns false'. Refute it at one input. -/
def fnSearchDeeperThanEachRoleWrong : ChangeSpec := { name := "fnSearchDeeperThanEachRole", fn := fun _ => fun
  | [d1, d2, d3] => { results := [.lit (.bool false)], args := [d1, d2, d3] }
  | _ => none }
def FnSearchDeeperThanEachRoleWrongFalsely : Prop := fnSearchDeeperThanEachRoleRow.holds Try.pinned (OpenSpec.ofChange fnSearchDeeperThanEachRoleWrong)

/-- 'zzlaws_root_b1.FnCoverLinearNearestStar': WHATEVER THE INPUT: true; the input reads as it did. -/
def fnCoverLinearNearestStarSpec : ChangeSpec := { name := "fnCoverLinearNearestStar", fn := fun _ => fun
  | [d1, d2, d3] => { results := [.lit (.bool true)], args := [d1, d2, d3] }
  | _ => none }
def fnCoverLinearNearestStarRow : OpenClaim := { program := "qxb6000628a", sum := "42e70c762e3d79e203bd57da5a5ef26b8cb77973167fb678c026cc4da028350a", func := "example.com/doberman/doberman/zzlaws_root_b1.FnCoverLinearNearestStar", spec := "fnCoverLinearNearestStar", apart := false }
def FnCoverLinearNearestStarSaid : Prop := fnCoverLinearNearestStarRow.holds Try.pinned (OpenSpec.ofChange fnCoverLinearNearestStarSpec)

/-- ITS FALSE NEIGHBOUR: 'it returns false'. Refute it at one input. -/
def fnCoverLinearNearestStarWrong : ChangeSpec := { name := "fnCoverLinearNearestStar", fn := fun _ => fun
  | [d1, d2, d3] => { results := [.lit (.bool false)], args := [d1, d2, d3] }
  | _ => none }
def FnCoverLinearNearestStarWrongFalsely : Prop := fnCoverLinearNearestStarRow.holds Try.pinned (OpenSpec.ofChange fnCoverLinearNearestStarWrong)

/-- 'zzlaws_root_b1.FnCoverPointsForwardToAStar': WHATEVER THE INPUT: true; the input reads as it did. -/
def fnCoverPointsForwardToAStarSpec : ChangeSpec := { name := "fnCoverPointsForwardToAStar", fn := fun _ => fun
  | [d1, d2, d3, d4] => { results := [.lit (.bool true)], args := [d1, d2, d3, d4] }
  | _ => none }
def fnCoverPointsForwardToAStarRow : OpenClaim := { program := "qxb6000628a", sum := "42e70c762e3d79e203bd57da5a5ef26b8cb77973167fb678c026cc4da028350a", func := "example.com/doberman/doberman/zzlaws_root_b1.FnCoverPointsForwardToAStar", spec := "fnCoverPointsForwardToAStar", apart := false }
def FnCoverPointsForwardToAStarSaid : Prop := fnCoverPointsForwardToAStarRow.holds Try.pinned (OpenSpec.ofChange fnCoverPointsForwardToAStarSpec)

/-- ITS FALSE NEIGHBOUR: 'it returns false'. Refute it at one input. -/
def fnCoverPointsForwardToAStarWrong : ChangeSpec := { name := "fnCoverPointsForwardToAStar", fn := fun _ => fun
  | [d1, d2, d3, d4] => { results := [.lit (.bool false)], args := [d1, d2, d3, d4] }
  | _ => none }
def FnCoverPointsForwardToAStarWrongFalsely : Prop := fnCoverPointsForwardToAStarRow.holds Try.pinned (OpenSpec.ofChange fnCoverPointsForwardToAStarWrong)

end Rows
end Go.Proofs.Qxb6000628a
