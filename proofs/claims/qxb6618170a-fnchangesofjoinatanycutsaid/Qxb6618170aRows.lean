/-
  No cell of these rows narrows 'for every input' (looked for: loops, veiled, ifaces, maps, wideKeys, modest, calm, conditions, laid).
  DERIVED. THE GIVEN ROWS OF THIS SEAT. 2 by the template 'for every input the law returns true; each argument reads behind the call as it read before'; 0 by the template 'total and deterministic' (their statements: Qxb6618170aTotals.lean).
  GIVEN WITH THE SEED: the statements are not yours to turn. If you find one false, say at which input.
  Laid BY PROGRAM, IN A SANDBOX (cutbox-rows.mjs): the forced cells as the released guide's own fill.sh prints them over the translation e680c309c84284f3… (all of the seat's roots in one cut). By AI agents, Wed Nov 11 2026. No macro, syntax, notation, axiom, sorry.
-/
import Derived.Test.Qxb6618170aChecked
import GoSem.Claim
import GoSem.ClaimJoined
import GoSem.ClaimMapViews
import Derived.JoinedTies
import Derived.KernelRfl
namespace Go.Proofs.Qxb6618170a
/- THE CELL 'sum', in the pinned program and in every row, IS THE sha256 OF THE DUMP (.gsa) THAT Qxb6618170aProg.lean LOADS. Nothing in Lean hashes anything: it is a label: what it is worth is what the hold of that sum in a sandbox is worth. -/
noncomputable def Try.pinned : Pinned := { name := "qxb6618170a", sum := "e680c309c84284f3d0bc0c943e78505f5a787b8e0c40776898ccb50f8533d6a7", checked := Try.checked }
namespace Rows
def none {H : Type} : Left H := { results := [], args := [] }

/-- 'zzlaws_internal_diff_b1.FnChangesOfAreTheGapsBetweenKeptLines': WHATEVER THE INPUT: true; the input reads as it did. -/
def fnChangesOfAreTheGapsBetweenKeptLinesSpec : ChangeSpec := { name := "fnChangesOfAreTheGapsBetweenKeptLines", fn := fun _ => fun
  | [d1, d2] => { results := [.lit (.bool true)], args := [d1, d2] }
  | _ => none }
def fnChangesOfAreTheGapsBetweenKeptLinesRow : OpenClaim := { program := "qxb6618170a", sum := "e680c309c84284f3d0bc0c943e78505f5a787b8e0c40776898ccb50f8533d6a7", func := "example.com/bound-state/bound-state/zzlaws_internal_diff_b1.FnChangesOfAreTheGapsBetweenKeptLines", spec := "fnChangesOfAreTheGapsBetweenKeptLines", apart := false }
def FnChangesOfAreTheGapsBetweenKeptLinesSaid : Prop := fnChangesOfAreTheGapsBetweenKeptLinesRow.holds Try.pinned (OpenSpec.ofChange fnChangesOfAreTheGapsBetweenKeptLinesSpec)

/-- ITS FALSE NEIGHBOUR: 'it returns false'. Refute it at one input. -/
def fnChangesOfAreTheGapsBetweenKeptLinesWrong : ChangeSpec := { name := "fnChangesOfAreTheGapsBetweenKeptLines", fn := fun _ => fun
  | [d1, d2] => { results := [.lit (.bool false)], args := [d1, d2] }
  | _ => none }
def FnChangesOfAreTheGapsBetweenKeptLinesWrongFalsely : Prop := fnChangesOfAreTheGapsBetweenKeptLinesRow.holds Try.pinned (OpenSpec.ofChange fnChangesOfAreTheGapsBetweenKeptLinesWrong)

/-- 'zzlaws_internal_diff_b1.FnChangesOfJoinAtAnyCut': WHATEVER THE INPUT: true; the input reads as it did. -/
def fnChangesOfJoinAtAnyCutSpec : ChangeSpec := { name := "fnChangesOfJoinAtAnyCut", fn := fun _ => fun
  | [d1, d2, d3, d4] => { results := [.lit (.bool true)], args := [d1, d2, d3, d4] }
  | _ => none }
def fnChangesOfJoinAtAnyCutRow : OpenClaim := { program := "qxb6618170a", sum := "e680c309c84284f3d0bc0c943e78505f5a787b8e0c40776898ccb50f8533d6a7", func := "example.com/bound-state/bound-state/zzlaws_internal_diff_b1.FnChangesOfJoinAtAnyCut", spec := "fnChangesOfJoinAtAnyCut", apart := false }
def FnChangesOfJoinAtAnyCutSaid : Prop := fnChangesOfJoinAtAnyCutRow.holds Try.pinned (OpenSpec.ofChange fnChangesOfJoinAtAnyCutSpec)

/-- ITS FALSE NEIGHBOUR: 'it returns false'. Refute it at one input. -/
def fnChangesOfJoinAtAnyCutWrong : ChangeSpec := { name := "fnChangesOfJoinAtAnyCut", fn := fun _ => fun
  | [d1, d2, d3, d4] => { results := [.lit (.bool false)], args := [d1, d2, d3, d4] }
  | _ => none }
def FnChangesOfJoinAtAnyCutWrongFalsely : Prop := fnChangesOfJoinAtAnyCutRow.holds Try.pinned (OpenSpec.ofChange fnChangesOfJoinAtAnyCutWrong)

end Rows
end Go.Proofs.Qxb6618170a
