/-
  No cell of these rows narrows 'for every input' (looked for: loops, veiled, ifaces, maps, wideKeys, modest, calm, conditions, laid).
  DERIVED. THE GIVEN ROWS OF THIS SEAT. 3 by the template 'for every input the law returns true; each argument reads behind the call as it read before'; 0 by the template 'total and deterministic' (their statements: Qxb6613096aTotals.lean).
  GIVEN WITH THE SEED: the statements are not yours to turn. If you find one false, say at which input.
  Laid BY PROGRAM, IN A SANDBOX (cutbox-rows.mjs): the forced cells as the released guide's own fill.sh prints them over the translation 86372bf84ad90247… (all of the seat's roots in one cut). By AI agents, Wed Nov 11 2026. No macro, syntax, notation, axiom, sorry.
-/
import Derived.Test.Qxb6613096aChecked
import GoSem.Claim
import GoSem.ClaimJoined
import GoSem.ClaimMapViews
import Derived.JoinedTies
import Derived.KernelRfl
namespace Go.Proofs.Qxb6613096a
/- THE CELL 'sum', in the pinned program and in every row, IS THE sha256 OF THE DUMP (.gsa) THAT Qxb6613096aProg.lean LOADS. Nothing in Lean hashes anything: it is a label: what it is worth is what the hold of that sum in a sandbox is worth. -/
noncomputable def Try.pinned : Pinned := { name := "qxb6613096a", sum := "86372bf84ad90247979971738c096f9cdffb8b82c9a66f092727bfd6130eaffe", checked := Try.checked }
namespace Rows
def none {H : Type} : Left H := { results := [], args := [] }

/-- 'zzlaws_internal_hook_b1.FnValueOfFindsWhatTextOfGives': WHATEVER THE INPUT: true; the input reads as it did. -/
def fnValueOfFindsWhatTextOfGivesSpec : ChangeSpec := { name := "fnValueOfFindsWhatTextOfGives", fn := fun _ => fun
  | [d1, d2] => { results := [.lit (.bool true)], args := [d1, d2] }
  | _ => none }
def fnValueOfFindsWhatTextOfGivesRow : OpenClaim := { program := "qxb6613096a", sum := "86372bf84ad90247979971738c096f9cdffb8b82c9a66f092727bfd6130eaffe", func := "example.com/hookwarden/hookwarden/zzlaws_internal_hook_b1.FnValueOfFindsWhatTextOfGives", spec := "fnValueOfFindsWhatTextOfGives", apart := false }
def FnValueOfFindsWhatTextOfGivesSaid : Prop := fnValueOfFindsWhatTextOfGivesRow.holds Try.pinned (OpenSpec.ofChange fnValueOfFindsWhatTextOfGivesSpec)

/-- ITS FALSE NEIGHBOUR: 'it returns false'. Refute it at one input. -/
def fnValueOfFindsWhatTextOfGivesWrong : ChangeSpec := { name := "fnValueOfFindsWhatTextOfGives", fn := fun _ => fun
  | [d1, d2] => { results := [.lit (.bool false)], args := [d1, d2] }
  | _ => none }
def FnValueOfFindsWhatTextOfGivesWrongFalsely : Prop := fnValueOfFindsWhatTextOfGivesRow.holds Try.pinned (OpenSpec.ofChange fnValueOfFindsWhatTextOfGivesWrong)

/-- 'zzlaws_internal_hook_b1.FnValueOfAtAnyCut': WHATEVER THE INPUT: true; the input reads as it did. -/
def fnValueOfAtAnyCutSpec : ChangeSpec := { name := "fnValueOfAtAnyCut", fn := fun _ => fun
  | [d1, d2, d3] => { results := [.lit (.bool true)], args := [d1, d2, d3] }
  | _ => none }
def fnValueOfAtAnyCutRow : OpenClaim := { program := "qxb6613096a", sum := "86372bf84ad90247979971738c096f9cdffb8b82c9a66f092727bfd6130eaffe", func := "example.com/hookwarden/hookwarden/zzlaws_internal_hook_b1.FnValueOfAtAnyCut", spec := "fnValueOfAtAnyCut", apart := false }
def FnValueOfAtAnyCutSaid : Prop := fnValueOfAtAnyCutRow.holds Try.pinned (OpenSpec.ofChange fnValueOfAtAnyCutSpec)

/-- ITS FALSE NEIGHBOUR: 'it returns false'. Refute it at one input. -/
def fnValueOfAtAnyCutWrong : ChangeSpec := { name := "fnValueOfAtAnyCut", fn := fun _ => fun
  | [d1, d2, d3] => { results := [.lit (.bool false)], args := [d1, d2, d3] }
  | _ => none }
def FnValueOfAtAnyCutWrongFalsely : Prop := fnValueOfAtAnyCutRow.holds Try.pinned (OpenSpec.ofChange fnValueOfAtAnyCutWrong)

/-- 'zzlaws_internal_hook_b1.FnSkipSpaceStopsAtFirstNonSpace': WHATEVER THE INPUT: true; the input reads as it did. -/
def fnSkipSpaceStopsAtFirstNonSpaceSpec : ChangeSpec := { name := "fnSkipSpaceStopsAtFirstNonSpace", fn := fun _ => fun
  | [d1, d2] => { results := [.lit (.bool true)], args := [d1, d2] }
  | _ => none }
def fnSkipSpaceStopsAtFirstNonSpaceRow : OpenClaim := { program := "qxb6613096a", sum := "86372bf84ad90247979971738c096f9cdffb8b82c9a66f092727bfd6130eaffe", func := "example.com/hookwarden/hookwarden/zzlaws_internal_hook_b1.FnSkipSpaceStopsAtFirstNonSpace", spec := "fnSkipSpaceStopsAtFirstNonSpace", apart := false }
def FnSkipSpaceStopsAtFirstNonSpaceSaid : Prop := fnSkipSpaceStopsAtFirstNonSpaceRow.holds Try.pinned (OpenSpec.ofChange fnSkipSpaceStopsAtFirstNonSpaceSpec)

/-- ITS FALSE NEIGHBOUR: 'it returns false'. Refute it at one input. -/
def fnSkipSpaceStopsAtFirstNonSpaceWrong : ChangeSpec := { name := "fnSkipSpaceStopsAtFirstNonSpace", fn := fun _ => fun
  | [d1, d2] => { results := [.lit (.bool false)], args := [d1, d2] }
  | _ => none }
def FnSkipSpaceStopsAtFirstNonSpaceWrongFalsely : Prop := fnSkipSpaceStopsAtFirstNonSpaceRow.holds Try.pinned (OpenSpec.ofChange fnSkipSpaceStopsAtFirstNonSpaceWrong)

end Rows
end Go.Proofs.Qxb6613096a
