/-
  No cell of these rows narrows 'for every input' (looked for: loops, veiled, ifaces, maps, wideKeys, modest, calm, conditions, laid).
  DERIVED. THE GIVEN ROWS OF THIS SEAT. 2 by the template 'for every input the law returns true; each argument reads behind the call as it read before'; 0 by the template 'total and deterministic' (their statements: Qxb6002450aTotals.lean).
  GIVEN WITH THE SEED: the statements are not yours to turn. If you find one false, say at which input.
  Laid BY PROGRAM, IN A SANDBOX (cutbox-rows.mjs): the forced cells as the released guide's own fill.sh prints them over the translation e39f02bbb2814fbc… (all of the seat's roots in one cut). By AI agents, Wed Nov 11 2026. No macro, syntax, notation, axiom, sorry.
-/
import Derived.Test.Qxb6002450aChecked
import GoSem.Claim
import GoSem.ClaimJoined
import GoSem.ClaimMapViews
import Derived.JoinedTies
import Derived.KernelRfl
namespace Go.Proofs.Qxb6002450a
/- THE CELL 'sum', in the pinned program and in every row, IS THE sha256 OF THE DUMP (.gsa) THAT Qxb6002450aProg.lean LOADS. Nothing in Lean hashes anything: it is a label: what it is worth is what the hold of that sum in a sandbox is worth. -/
noncomputable def Try.pinned : Pinned := { name := "qxb6002450a", sum := "e39f02bbb2814fbcc074355a6d801719d83a66ba48b26a06fd9c605e7ab53a04", checked := Try.checked }
namespace Rows
def none {H : Type} : Left H := { results := [], args := [] }

/-- 'zzlaws_pkg_shell_g1.FnTallyJoinConcatenates': WHATEVER THE INPUT: true; the input reads as it did. -/
def fnTallyJoinConcatenatesSpec : ChangeSpec := { name := "fnTallyJoinConcatenates", fn := fun _ => fun
  | [d1, d2] => { results := [.lit (.bool true)], args := [d1, d2] }
  | _ => none }
def fnTallyJoinConcatenatesRow : OpenClaim := { program := "qxb6002450a", sum := "e39f02bbb2814fbcc074355a6d801719d83a66ba48b26a06fd9c605e7ab53a04", func := "example.com/acheron/acheron/zzlaws_pkg_shell_g1.FnTallyJoinConcatenates", spec := "fnTallyJoinConcatenates", recurses := true, apart := false }
def FnTallyJoinConcatenatesSaid : Prop := fnTallyJoinConcatenatesRow.holds Try.pinned (OpenSpec.ofChange fnTallyJoinConcatenatesSpec)

/-- ITS FALSE NEIGHBOUR: 'it returns false'. Refute it at one input. -/
def fnTallyJoinConcatenatesWrong : ChangeSpec := { name := "fnTallyJoinConcatenates", fn := fun _ => fun
  | [d1, d2] => { results := [.lit (.bool false)], args := [d1, d2] }
  | _ => none }
def FnTallyJoinConcatenatesWrongFalsely : Prop := fnTallyJoinConcatenatesRow.holds Try.pinned (OpenSpec.ofChange fnTallyJoinConcatenatesWrong)

/-- 'zzlaws_pkg_shell_g1.FnTallyStartOfJoinIsStartOfParts': WHATEVER THE INPUT: true; the input reads as it did. -/
def fnTallyStartOfJoinIsStartOfPartsSpec : ChangeSpec := { name := "fnTallyStartOfJoinIsStartOfParts", fn := fun _ => fun
  | [d1, d2, d3] => { results := [.lit (.bool true)], args := [d1, d2, d3] }
  | _ => none }
def fnTallyStartOfJoinIsStartOfPartsRow : OpenClaim := { program := "qxb6002450a", sum := "e39f02bbb2814fbcc074355a6d801719d83a66ba48b26a06fd9c605e7ab53a04", func := "example.com/acheron/acheron/zzlaws_pkg_shell_g1.FnTallyStartOfJoinIsStartOfParts", spec := "fnTallyStartOfJoinIsStartOfParts", inPlace := ["sync/atomic.AddUint64", "sync/atomic.LoadUint64"], recurses := true, apart := false }
def FnTallyStartOfJoinIsStartOfPartsSaid : Prop := fnTallyStartOfJoinIsStartOfPartsRow.holds Try.pinned (OpenSpec.ofChange fnTallyStartOfJoinIsStartOfPartsSpec)

/-- ITS FALSE NEIGHBOUR: 'it returns false'. Refute it at one input. -/
def fnTallyStartOfJoinIsStartOfPartsWrong : ChangeSpec := { name := "fnTallyStartOfJoinIsStartOfParts", fn := fun _ => fun
  | [d1, d2, d3] => { results := [.lit (.bool false)], args := [d1, d2, d3] }
  | _ => none }
def FnTallyStartOfJoinIsStartOfPartsWrongFalsely : Prop := fnTallyStartOfJoinIsStartOfPartsRow.holds Try.pinned (OpenSpec.ofChange fnTallyStartOfJoinIsStartOfPartsWrong)

end Rows
end Go.Proofs.Qxb6002450a
