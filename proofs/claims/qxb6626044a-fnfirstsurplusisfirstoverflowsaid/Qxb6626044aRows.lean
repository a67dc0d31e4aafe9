/-
  NARROWER THAN 'FOR EVERY INPUT', by the rows' own cells (each row's printed sentence says how): FnFirstSurplusIsFirstOverflow: maps, wideKeys.
  DERIVED. THE GIVEN ROWS OF THIS SEAT. 2 by the template 'for every input the law returns true; each argument reads behind the call as it read before'; 0 by the template 'total and deterministic' (their statements: Qxb6626044aTotals.lean).
  GIVEN WITH THE SEED: the statements are not yours to turn. If you find one false, say at which input.
  Laid BY PROGRAM, IN A SANDBOX (cutbox-rows.mjs): the forced cells as the released guide's own fill.sh prints them over the translation 5c71029e93adf1f7… (all of the seat's roots in one cut). By AI agents, Wed Nov 11 2026. No macro, syntax, notation, axiom, sorry.
-/
import Derived.Test.Qxb6626044aChecked
import GoSem.Claim
import GoSem.ClaimJoined
import GoSem.ClaimMapViews
import Derived.JoinedTies
import Derived.KernelRfl
namespace Go.Proofs.Qxb6626044a
/- THE CELL 'sum', in the pinned program and in every row, IS THE sha256 OF THE DUMP (.gsa) THAT Qxb6626044aProg.lean LOADS. Nothing in Lean hashes anything: it is a label: what it is worth is what the hold of that sum in a sandbox is worth. -/
noncomputable def Try.pinned : Pinned := { name := "qxb6626044a", sum := "5c71029e93adf1f7fd51a33aa94f6a6dcf12d8415e705f6195776f849ddde831", checked := Try.checked }
namespace Rows
def none {H : Type} : Left H := { results := [], args := [] }

/-- 'zzlaws_internal_manuscript_b1.FnFirstSurplusIsFirstOverflow': WHATEVER THE INPUT: true; the input reads as it did. -/
def fnFirstSurplusIsFirstOverflowSpec : ChangeSpec := { name := "fnFirstSurplusIsFirstOverflow", fn := fun _ => fun
  | [d1, d2] => { results := [.lit (.bool true)], args := [d1, d2] }
  | _ => none }
def fnFirstSurplusIsFirstOverflowRow : OpenClaim := { program := "qxb6626044a", sum := "5c71029e93adf1f7fd51a33aa94f6a6dcf12d8415e705f6195776f849ddde831", func := "example.com/gopherbook/gopherbook/zzlaws_internal_manuscript_b1.FnFirstSurplusIsFirstOverflow", spec := "fnFirstSurplusIsFirstOverflow", maps := true, wideKeys := true, plainKeys := false, apart := false }
def FnFirstSurplusIsFirstOverflowSaid : Prop := fnFirstSurplusIsFirstOverflowRow.holds Try.pinned (OpenSpec.ofChange fnFirstSurplusIsFirstOverflowSpec)

/-- ITS FALSE NEIGHBOUR: 'it returns false'. Refute it at one input. -/
def fnFirstSurplusIsFirstOverflowWrong : ChangeSpec := { name := "fnFirstSurplusIsFirstOverflow", fn := fun _ => fun
  | [d1, d2] => { results := [.lit (.bool false)], args := [d1, d2] }
  | _ => none }
def FnFirstSurplusIsFirstOverflowWrongFalsely : Prop := fnFirstSurplusIsFirstOverflowRow.holds Try.pinned (OpenSpec.ofChange fnFirstSurplusIsFirstOverflowWrong)

/-- 'zzlaws_internal_manuscript_b1.FnFirstSurplusAtExactCounts': WHATEVER THE INPUT: true; the input reads as it did. -/
def fnFirstSurplusAtExactCountsSpec : ChangeSpec := { name := "fnFirstSurplusAtExactCounts", fn := fun _ => fun
  | [d1, d2] => { results := [.lit (.bool true)], args := [d1, d2] }
  | _ => none }
def fnFirstSurplusAtExactCountsRow : OpenClaim := { program := "qxb6626044a", sum := "5c71029e93adf1f7fd51a33aa94f6a6dcf12d8415e705f6195776f849ddde831", func := "example.com/gopherbook/gopherbook/zzlaws_internal_manuscript_b1.FnFirstSurplusAtExactCounts", spec := "fnFirstSurplusAtExactCounts", plainKeys := false, apart := false }
def FnFirstSurplusAtExactCountsSaid : Prop := fnFirstSurplusAtExactCountsRow.holds Try.pinned (OpenSpec.ofChange fnFirstSurplusAtExactCountsSpec)

/-- ITS FALSE NEIGHBOUR: 'it returns false'. Refute it at one input. -/
def fnFirstSurplusAtExactCountsWrong : ChangeSpec := { name := "fnFirstSurplusAtExactCounts", fn := fun _ => fun
  | [d1, d2] => { results := [.lit (.bool false)], args := [d1, d2] }
  | _ => none }
def FnFirstSurplusAtExactCountsWrongFalsely : Prop := fnFirstSurplusAtExactCountsRow.holds Try.pinned (OpenSpec.ofChange fnFirstSurplusAtExactCountsWrong)

end Rows
end Go.Proofs.Qxb6626044a
