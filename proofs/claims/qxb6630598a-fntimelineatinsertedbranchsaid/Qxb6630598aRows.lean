/-
  No cell of these rows narrows 'for every input' (looked for: loops, veiled, ifaces, maps, wideKeys, modest, calm, conditions, laid).
  DERIVED. THE GIVEN ROWS OF THIS SEAT. 2 by the template 'for every input the law returns true; each argument reads behind the call as it read before'; 0 by the template 'total and deterministic' (their statements: Qxb6630598aTotals.lean).
  GIVEN WITH THE SEED: the statements are not yours to turn. If you find one false, say at which input.
  Laid BY PROGRAM, IN A SANDBOX (cutbox-rows.mjs): the forced cells as the released guide's own fill.sh prints them over the translation c000303beeac78e2… (all of the seat's roots in one cut). By AI agents, Wed Nov 11 2026. No macro, syntax, notation, axiom, sorry.
-/
import Derived.Test.Qxb6630598aChecked
import GoSem.Claim
import GoSem.ClaimJoined
import GoSem.ClaimMapViews
import Derived.JoinedTies
import Derived.KernelRfl
namespace Go.Proofs.Qxb6630598a
/- THE CELL 'sum', in the pinned program and in every row, IS THE sha256 OF THE DUMP (.gsa) THAT Qxb6630598aProg.lean LOADS. Nothing in Lean hashes anything: it is a label: what it is worth is what the hold of that sum in a sandbox is worth. -/
noncomputable def Try.pinned : Pinned := { name := "qxb6630598a", sum := "c000303beeac78e232c4b73daa0d7b93ff5f695515913601e5f8805c43712ec1", checked := Try.checked }
namespace Rows
def none {H : Type} : Left H := { results := [], args := [] }

/-- 'zzlaws_pkg_wal_b1.FnTimelineAtInsertedBranch': WHATEVER THE INPUT: true; the input reads as it did. -/
def fnTimelineAtInsertedBranchSpec : ChangeSpec := { name := "fnTimelineAtInsertedBranch", fn := fun _ => fun
  | [d1, d2, d3, d4, d5, d6] => { results := [.lit (.bool true)], args := [d1, d2, d3, d4, d5, d6] }
  | _ => none }
def fnTimelineAtInsertedBranchRow : OpenClaim := { program := "qxb6630598a", sum := "c000303beeac78e232c4b73daa0d7b93ff5f695515913601e5f8805c43712ec1", func := "example.com/logharbor/logharbor/zzlaws_pkg_wal_b1.FnTimelineAtInsertedBranch", spec := "fnTimelineAtInsertedBranch", apart := false }
def FnTimelineAtInsertedBranchSaid : Prop := fnTimelineAtInsertedBranchRow.holds Try.pinned (OpenSpec.ofChange fnTimelineAtInsertedBranchSpec)

/-- ITS FALSE NEIGHBOUR: 'it returns false'. Refute it at one input. -/
def fnTimelineAtInsertedBranchWrong : ChangeSpec := { name := "fnTimelineAtInsertedBranch", fn := fun _ => fun
  | [d1, d2, d3, d4, d5, d6] => { results := [.lit (.bool false)], args := [d1, d2, d3, d4, d5, d6] }
  | _ => none }
def FnTimelineAtInsertedBranchWrongFalsely : Prop := fnTimelineAtInsertedBranchRow.holds Try.pinned (OpenSpec.ofChange fnTimelineAtInsertedBranchWrong)

/-- 'zzlaws_pkg_wal_b1.FnTimelineAtSplitHistory': WHATEVER THE INPUT: true; the input reads as it did. -/
def fnTimelineAtSplitHistorySpec : ChangeSpec := { name := "fnTimelineAtSplitHistory", fn := fun _ => fun
  | [d1, d2, d3, d4] => { results := [.lit (.bool true)], args := [d1, d2, d3, d4] }
  | _ => none }
def fnTimelineAtSplitHistoryRow : OpenClaim := { program := "qxb6630598a", sum := "c000303beeac78e232c4b73daa0d7b93ff5f695515913601e5f8805c43712ec1", func := "example.com/logharbor/logharbor/zzlaws_pkg_wal_b1.FnTimelineAtSplitHistory", spec := "fnTimelineAtSplitHistory", apart := false }
def FnTimelineAtSplitHistorySaid : Prop := fnTimelineAtSplitHistoryRow.holds Try.pinned (OpenSpec.ofChange fnTimelineAtSplitHistorySpec)

/-- ITS FALSE NEIGHBOUR: 'it returns false'. Refute it at one input. -/
def fnTimelineAtSplitHistoryWrong : ChangeSpec := { name := "fnTimelineAtSplitHistory", fn := fun _ => fun
  | [d1, d2, d3, d4] => { results := [.lit (.bool false)], args := [d1, d2, d3, d4] }
  | _ => none }
def FnTimelineAtSplitHistoryWrongFalsely : Prop := fnTimelineAtSplitHistoryRow.holds Try.pinned (OpenSpec.ofChange fnTimelineAtSplitHistoryWrong)

end Rows
end Go.Proofs.Qxb6630598a
