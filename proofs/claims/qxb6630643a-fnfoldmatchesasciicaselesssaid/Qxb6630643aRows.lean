/-
  No cell of these rows narrows 'for every input' (looked for: loops, veiled, ifaces, maps, wideKeys, modest, calm, conditions, laid).
  DERIVED. THE GIVEN ROWS OF THIS SEAT. 2 by the template 'for every input the law returns true; each argument reads behind the call as it read before'; 0 by the template 'total and deterministic' (their statements: Qxb6630643aTotals.lean).
  GIVEN WITH THE SEED: the statements are not yours to turn. If you find one false, say at which input.
  Laid BY PROGRAM, IN A SANDBOX (cutbox-rows.mjs): the forced cells as the released guide's own fill.sh prints them over the translation 6ab072f77fd7e0a5… (all of the seat's roots in one cut). By AI agents, Wed Nov 11 2026. No macro, syntax, notation, axiom, sorry.
-/
import Derived.Test.Qxb6630643aChecked
import GoSem.Claim
import GoSem.ClaimJoined
import GoSem.ClaimMapViews
import Derived.JoinedTies
import Derived.KernelRfl
namespace Go.Proofs.Qxb6630643a
/- THE CELL 'sum', in the pinned program and in every row, IS THE sha256 OF THE DUMP (.gsa) THAT Qxb6630643aProg.lean LOADS. Nothing in Lean hashes anything: it is a label: what it is worth is what the hold of that sum in a sandbox is worth. -/
noncomputable def Try.pinned : Pinned := { name := "qxb6630643a", sum := "6ab072f77fd7e0a5ab8dd0a7e03b24e6ed7f1e7c68f37fd8a10900be493a36f7", checked := Try.checked }
namespace Rows
def none {H : Type} : Left H := { results := [], args := [] }

/-- 'zzlaws_room_b1.FnFoldMatchesASCIICaseless': WHATEVER THE INPUT: true; the input reads as it did. -/
def fnFoldMatchesASCIICaselessSpec : ChangeSpec := { name := "fnFoldMatchesASCIICaseless", fn := fun _ => fun
  | [d1, d2] => { results := [.lit (.bool true)], args := [d1, d2] }
  | _ => none }
def fnFoldMatchesASCIICaselessRow : OpenClaim := { program := "qxb6630643a", sum := "6ab072f77fd7e0a5ab8dd0a7e03b24e6ed7f1e7c68f37fd8a10900be493a36f7", func := "example.com/plainroom/plainroom/zzlaws_room_b1.FnFoldMatchesASCIICaseless", spec := "fnFoldMatchesASCIICaseless", apart := false }
def FnFoldMatchesASCIICaselessSaid : Prop := fnFoldMatchesASCIICaselessRow.holds Try.pinned (OpenSpec.ofChange fnFoldMatchesASCIICaselessSpec)

/-- ITS FALSE NEIGHBOUR: 'it returns false'. Refute it at one input. -/
def fnFoldMatchesASCIICaselessWrong : ChangeSpec := { name := "fnFoldMatchesASCIICaseless", fn := fun _ => fun
  | [d1, d2] => { results := [.lit (.bool false)], args := [d1, d2] }
  | _ => none }
def FnFoldMatchesASCIICaselessWrongFalsely : Prop := fnFoldMatchesASCIICaselessRow.holds Try.pinned (OpenSpec.ofChange fnFoldMatchesASCIICaselessWrong)

/-- 'zzlaws_room_b1.FnFoldIsLowercaseOfConcatenation': WHATEVER THE INPUT: true; the input reads as it did. -/
def fnFoldIsLowercaseOfConcatenationSpec : ChangeSpec := { name := "fnFoldIsLowercaseOfConcatenation", fn := fun _ => fun
  | [d1, d2] => { results := [.lit (.bool true)], args := [d1, d2] }
  | _ => none }
def fnFoldIsLowercaseOfConcatenationRow : OpenClaim := { program := "qxb6630643a", sum := "6ab072f77fd7e0a5ab8dd0a7e03b24e6ed7f1e7c68f37fd8a10900be493a36f7", func := "example.com/plainroom/plainroom/zzlaws_room_b1.FnFoldIsLowercaseOfConcatenation", spec := "fnFoldIsLowercaseOfConcatenation", apart := false }
def FnFoldIsLowercaseOfConcatenationSaid : Prop := fnFoldIsLowercaseOfConcatenationRow.holds Try.pinned (OpenSpec.ofChange fnFoldIsLowercaseOfConcatenationSpec)

/-- ITS FALSE NEIGHBOUR: 'it returns false'. Refute it at one input. -/
def fnFoldIsLowercaseOfConcatenationWrong : ChangeSpec := { name := "fnFoldIsLowercaseOfConcatenation", fn := fun _ => fun
  | [d1, d2] => { results := [.lit (.bool false)], args := [d1, d2] }
  | _ => none }
def FnFoldIsLowercaseOfConcatenationWrongFalsely : Prop := fnFoldIsLowercaseOfConcatenationRow.holds Try.pinned (OpenSpec.ofChange fnFoldIsLowercaseOfConcatenationWrong)

end Rows
end Go.Proofs.Qxb6630643a
