/-
  No cell of these rows narrows 'for every input' (looked for: loops, veiled, ifaces, maps, wideKeys, modest, calm, conditions, laid).
  DERIVED. THE GIVEN ROWS OF THIS SEAT. 2 by the template 'for every input the law returns true; each argument reads behind the call as it read before'; 0 by the template 'total and deterministic' (their statements: Qxb6625826aTotals.lean).
  GIVEN WITH THE SEED: the statements are not yours to turn. If you find one false, say at which input.
  Laid BY PROGRAM, IN A SANDBOX (cutbox-rows.mjs): the forced cells as the released guide's own fill.sh prints them over the translation d8623f86461b0377… (all of the seat's roots in one cut). By AI agents, Wed Nov 11 2026. No macro, syntax, notation, axiom, sorry.
-/
import Derived.Test.Qxb6625826aChecked
import GoSem.Claim
import GoSem.ClaimJoined
import GoSem.ClaimMapViews
import Derived.JoinedTies
import Derived.KernelRfl
namespace Go.Proofs.Qxb6625826a
/- THE CELL 'sum', in the pinned program and in every row, IS THE sha256 OF THE DUMP (.gsa) THAT Qxb6625826aProg.lean LOADS. Nothing in Lean hashes anything: it is a label: what it is worth is what the hold of that sum in a sandbox is worth. -/
noncomputable def Try.pinned : Pinned := { name := "qxb6625826a", sum := "d8623f86461b03777b3ce65978f260707a65a4edb693eb2c5505a0c02e911bd2", checked := Try.checked }
namespace Rows
def none {H : Type} : Left H := { results := [], args := [] }

/-- 'zzlaws_internal_pace_b1.FnAdvanceClearsExactlyTheSlotsItLeavesBehind': WHATEVER THE INPUT: true; the input reads as it did. -/
def fnAdvanceClearsExactlyTheSlotsItLeavesBehindSpec : ChangeSpec := { name := "fnAdvanceClearsExactlyTheSlotsItLeavesBehind", fn := fun _ => fun
  | [d1, d2, d3, d4, d5, d6] => { results := [.lit (.bool true)], args := [d1, d2, d3, d4, d5, d6] }
  | _ => none }
def fnAdvanceClearsExactlyTheSlotsItLeavesBehindRow : OpenClaim := { program := "qxb6625826a", sum := "d8623f86461b03777b3ce65978f260707a65a4edb693eb2c5505a0c02e911bd2", func := "example.com/reshelve/reshelve/zzlaws_internal_pace_b1.FnAdvanceClearsExactlyTheSlotsItLeavesBehind", spec := "fnAdvanceClearsExactlyTheSlotsItLeavesBehind", apart := false }
def FnAdvanceClearsExactlyTheSlotsItLeavesBehindSaid : Prop := fnAdvanceClearsExactlyTheSlotsItLeavesBehindRow.holds Try.pinned (OpenSpec.ofChange fnAdvanceClearsExactlyTheSlotsItLeavesBehindSpec)

/-- ITS FALSE NEIGHBOUR: 'it returns false'. Refute it at one input. -/
def fnAdvanceClearsExactlyTheSlotsItLeavesBehindWrong : ChangeSpec := { name := "fnAdvanceClearsExactlyTheSlotsItLeavesBehind", fn := fun _ => fun
  | [d1, d2, d3, d4, d5, d6] => { results := [.lit (.bool false)], args := [d1, d2, d3, d4, d5, d6] }
  | _ => none }
def FnAdvanceClearsExactlyTheSlotsItLeavesBehindWrongFalsely : Prop := fnAdvanceClearsExactlyTheSlotsItLeavesBehindRow.holds Try.pinned (OpenSpec.ofChange fnAdvanceClearsExactlyTheSlotsItLeavesBehindWrong)

/-- 'zzlaws_internal_pace_b1.FnAdvanceInTwoStepsEqualsOneStepToTheLater': WHATEVER THE INPUT: true; the input reads as it did. -/
def fnAdvanceInTwoStepsEqualsOneStepToTheLaterSpec : ChangeSpec := { name := "fnAdvanceInTwoStepsEqualsOneStepToTheLater", fn := fun _ => fun
  | [d1, d2, d3, d4, d5, d6, d7] => { results := [.lit (.bool true)], args := [d1, d2, d3, d4, d5, d6, d7] }
  | _ => none }
def fnAdvanceInTwoStepsEqualsOneStepToTheLaterRow : OpenClaim := { program := "qxb6625826a", sum := "d8623f86461b03777b3ce65978f260707a65a4edb693eb2c5505a0c02e911bd2", func := "example.com/reshelve/reshelve/zzlaws_internal_pace_b1.FnAdvanceInTwoStepsEqualsOneStepToTheLater", spec := "fnAdvanceInTwoStepsEqualsOneStepToTheLater", apart := false }
def FnAdvanceInTwoStepsEqualsOneStepToTheLaterSaid : Prop := fnAdvanceInTwoStepsEqualsOneStepToTheLaterRow.holds Try.pinned (OpenSpec.ofChange fnAdvanceInTwoStepsEqualsOneStepToTheLaterSpec)

/-- ITS FALSE NEIGHBOUR: 'it returns false'. Refute it at one input. -/
def fnAdvanceInTwoStepsEqualsOneStepToTheLaterWrong : ChangeSpec := { name := "fnAdvanceInTwoStepsEqualsOneStepToTheLater", fn := fun _ => fun
  | [d1, d2, d3, d4, d5, d6, d7] => { results := [.lit (.bool false)], args := [d1, d2, d3, d4, d5, d6, d7] }
  | _ => none }
def FnAdvanceInTwoStepsEqualsOneStepToTheLaterWrongFalsely : Prop := fnAdvanceInTwoStepsEqualsOneStepToTheLaterRow.holds Try.pinned (OpenSpec.ofChange fnAdvanceInTwoStepsEqualsOneStepToTheLaterWrong)

end Rows
end Go.Proofs.Qxb6625826a
