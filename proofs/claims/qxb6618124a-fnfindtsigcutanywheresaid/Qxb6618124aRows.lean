/-
  No cell of these rows narrows 'for every input' (looked for: loops, veiled, ifaces, maps, wideKeys, modest, calm, conditions, laid).
  DERIVED. THE GIVEN ROWS OF THIS SEAT. 4 by the template 'for every input the law returns true; each argument reads behind the call as it read before'; 0 by the template 'total and deterministic' (their statements: Qxb6618124aTotals.lean).
  GIVEN WITH THE SEED: the statements are not yours to turn. If you find one false, say at which input.
  Laid BY PROGRAM, IN A SANDBOX (cutbox-rows.mjs): the forced cells as the released guide's own fill.sh prints them over the translation 81036a860f7a39f1… (all of the seat's roots in one cut). By AI agents, Wed Nov 11 2026. No macro, syntax, notation, axiom, sorry.
-/
import Derived.Test.Qxb6618124aChecked
import GoSem.Claim
import GoSem.ClaimJoined
import GoSem.ClaimMapViews
import Derived.JoinedTies
import Derived.KernelRfl
namespace Go.Proofs.Qxb6618124a
/- THE CELL 'sum', in the pinned program and in every row, IS THE sha256 OF THE DUMP (.gsa) THAT Qxb6618124aProg.lean LOADS. Nothing in Lean hashes anything: it is a label: what it is worth is what the hold of that sum in a sandbox is worth. -/
noncomputable def Try.pinned : Pinned := { name := "qxb6618124a", sum := "81036a860f7a39f123c73ed358c187cf5c692b233bf6e72e824e2f7a51650a41", checked := Try.checked }
namespace Rows
def none {H : Type} : Left H := { results := [], args := [] }

/-- 'zzlaws_root_b1.FnReadEDNSFirstOPTAndCount': WHATEVER THE INPUT: true; the input reads as it did. -/
def fnReadEDNSFirstOPTAndCountSpec : ChangeSpec := { name := "fnReadEDNSFirstOPTAndCount", fn := fun _ => fun
  | [d1, d2, d3, d4, d5, d6] => { results := [.lit (.bool true)], args := [d1, d2, d3, d4, d5, d6] }
  | _ => none }
def fnReadEDNSFirstOPTAndCountRow : OpenClaim := { program := "qxb6618124a", sum := "81036a860f7a39f123c73ed358c187cf5c692b233bf6e72e824e2f7a51650a41", func := "example.com/latchkey/latchkey/zzlaws_root_b1.FnReadEDNSFirstOPTAndCount", spec := "fnReadEDNSFirstOPTAndCount", apart := false }
def FnReadEDNSFirstOPTAndCountSaid : Prop := fnReadEDNSFirstOPTAndCountRow.holds Try.pinned (OpenSpec.ofChange fnReadEDNSFirstOPTAndCountSpec)

/-- ITS FALSE NEIGHBOUR: 'it returns false'. Refute it at one input. -/
def fnReadEDNSFirstOPTAndCountWrong : ChangeSpec := { name := "fnReadEDNSFirstOPTAndCount", fn := fun _ => fun
  | [d1, d2, d3, d4, d5, d6] => { results := [.lit (.bool false)], args := [d1, d2, d3, d4, d5, d6] }
  | _ => none }
def FnReadEDNSFirstOPTAndCountWrongFalsely : Prop := fnReadEDNSFirstOPTAndCountRow.holds Try.pinned (OpenSpec.ofChange fnReadEDNSFirstOPTAndCountWrong)

/-- 'zzlaws_root_b1.FnReadEDNSOneRecordPutIn': WHATEVER THE INPUT: true; the input reads as it did. -/
def fnReadEDNSOneRecordPutInSpec : ChangeSpec := { name := "fnReadEDNSOneRecordPutIn", fn := fun _ => fun
  | [d1, d2, d3, d4] => { results := [.lit (.bool true)], args := [d1, d2, d3, d4] }
  | _ => none }
def fnReadEDNSOneRecordPutInRow : OpenClaim := { program := "qxb6618124a", sum := "81036a860f7a39f123c73ed358c187cf5c692b233bf6e72e824e2f7a51650a41", func := "example.com/latchkey/latchkey/zzlaws_root_b1.FnReadEDNSOneRecordPutIn", spec := "fnReadEDNSOneRecordPutIn", apart := false }
def FnReadEDNSOneRecordPutInSaid : Prop := fnReadEDNSOneRecordPutInRow.holds Try.pinned (OpenSpec.ofChange fnReadEDNSOneRecordPutInSpec)

/-- ITS FALSE NEIGHBOUR: 'it returns false'. Refute it at one input. -/
def fnReadEDNSOneRecordPutInWrong : ChangeSpec := { name := "fnReadEDNSOneRecordPutIn", fn := fun _ => fun
  | [d1, d2, d3, d4] => { results := [.lit (.bool false)], args := [d1, d2, d3, d4] }
  | _ => none }
def FnReadEDNSOneRecordPutInWrongFalsely : Prop := fnReadEDNSOneRecordPutInRow.holds Try.pinned (OpenSpec.ofChange fnReadEDNSOneRecordPutInWrong)

/-- 'zzlaws_root_b1.FnFindTSIGCutAnywhere': WHATEVER THE INPUT: true; the input reads as it did. -/
def fnFindTSIGCutAnywhereSpec : ChangeSpec := { name := "fnFindTSIGCutAnywhere", fn := fun _ => fun
  | [d1, d2, d3, d4, d5, d6] => { results := [.lit (.bool true)], args := [d1, d2, d3, d4, d5, d6] }
  | _ => none }
def fnFindTSIGCutAnywhereRow : OpenClaim := { program := "qxb6618124a", sum := "81036a860f7a39f123c73ed358c187cf5c692b233bf6e72e824e2f7a51650a41", func := "example.com/latchkey/latchkey/zzlaws_root_b1.FnFindTSIGCutAnywhere", spec := "fnFindTSIGCutAnywhere", apart := false }
def FnFindTSIGCutAnywhereSaid : Prop := fnFindTSIGCutAnywhereRow.holds Try.pinned (OpenSpec.ofChange fnFindTSIGCutAnywhereSpec)

/-- ITS FALSE NEIGHBOUR: 'it returns false'. Refute it at one input. -/
def fnFindTSIGCutAnywhereWrong : ChangeSpec := { name := "fnFindTSIGCutAnywhere", fn := fun _ => fun
  | [d1, d2, d3, d4, d5, d6] => { results := [.lit (.bool false)], args := [d1, d2, d3, d4, d5, d6] }
  | _ => none }
def FnFindTSIGCutAnywhereWrongFalsely : Prop := fnFindTSIGCutAnywhereRow.holds Try.pinned (OpenSpec.ofChange fnFindTSIGCutAnywhereWrong)

/-- 'zzlaws_root_b1.FnFindTSIGOneRecordPutIn': WHATEVER THE INPUT: true; the input reads as it did. -/
def fnFindTSIGOneRecordPutInSpec : ChangeSpec := { name := "fnFindTSIGOneRecordPutIn", fn := fun _ => fun
  | [d1, d2, d3, d4, d5, d6, d7, d8] => { results := [.lit (.bool true)], args := [d1, d2, d3, d4, d5, d6, d7, d8] }
  | _ => none }
def fnFindTSIGOneRecordPutInRow : OpenClaim := { program := "qxb6618124a", sum := "81036a860f7a39f123c73ed358c187cf5c692b233bf6e72e824e2f7a51650a41", func := "example.com/latchkey/latchkey/zzlaws_root_b1.FnFindTSIGOneRecordPutIn", spec := "fnFindTSIGOneRecordPutIn", apart := false }
def FnFindTSIGOneRecordPutInSaid : Prop := fnFindTSIGOneRecordPutInRow.holds Try.pinned (OpenSpec.ofChange fnFindTSIGOneRecordPutInSpec)

/-- ITS FALSE NEIGHBOUR: 'it returns false'. Refute it at one input. -/
def fnFindTSIGOneRecordPutInWrong : ChangeSpec := { name := "fnFindTSIGOneRecordPutIn", fn := fun _ => fun
  | [d1, d2, d3, d4, d5, d6, d7, d8] => { results := [.lit (.bool false)], args := [d1, d2, d3, d4, d5, d6, d7, d8] }
  | _ => none }
def FnFindTSIGOneRecordPutInWrongFalsely : Prop := fnFindTSIGOneRecordPutInRow.holds Try.pinned (OpenSpec.ofChange fnFindTSIGOneRecordPutInWrong)

end Rows
end Go.Proofs.Qxb6618124a
