/-
  DERIVED. GIVEN WITH THE SEED: THE CARDS: each row of Qxb6614003aFmtRows.lean that lists a variable, with what it lists TIED to the program's text (the seventh form; the later family's looks); each row that meets fmt, with fmt's text TOLD by the authors' own Lean function (tested against real Go, not proved from fmt's source: count such statements apart). THE CARD IS WHAT COUNTS. Prove the row's statement (the work); the ties are given (Qxb6614003aFmtTie.lean); close each card by the builder's one call (the guide's Derived/Test/ToyasCard.lean, 'card_holds'). Laid BY PROGRAM, IN A SANDBOX (cutbox-door.mjs). By AI agents, Wed Nov 11 2026. No macro, syntax, notation, axiom, sorry.
-/
import Derived.Test.Qxb6614003aFmtRows
import GoSem.ClaimSeven
namespace Go.Proofs.Qxb6614003aFmt
namespace Rows

/-- THE TOLD AND TIED CARD OF 'zzlaws_internal_jsonpick_b1.FnPeekFirstNonSpaceTwice'. -/
def fnPeekFirstNonSpaceTwiceCard : Claim7 := { stood := { row := fnPeekFirstNonSpaceTwiceRow, standIns := [], harness := (true, "639aad5448d1b1ec701601c4bccdf43d76990653af57fa373bd7cc1b885cc373"), looks := true }, told := true, laidByText := true, laidKinds := [.called, .called, .called], laidTests := true, laidLooks := .later, goes := false }
def FnPeekFirstNonSpaceTwiceToldSaid : Prop := Claim7.holds Tryf.pinned (.plain (OpenSpec.ofChange fnPeekFirstNonSpaceTwiceSpec)) fnPeekFirstNonSpaceTwiceCard
/-- ITS FALSE NEIGHBOUR. Refute it at one input. -/
def FnPeekFirstNonSpaceTwiceToldWrongFalsely : Prop := Claim7.holds Tryf.pinned (.plain (OpenSpec.ofChange fnPeekFirstNonSpaceTwiceWrong)) fnPeekFirstNonSpaceTwiceCard

/-- THE TOLD AND TIED CARD OF 'zzlaws_internal_jsonpick_b1.FnPeekOverJoinedText'. -/
def fnPeekOverJoinedTextCard : Claim7 := { stood := { row := fnPeekOverJoinedTextRow, standIns := [], harness := (true, "639aad5448d1b1ec701601c4bccdf43d76990653af57fa373bd7cc1b885cc373"), looks := true }, told := true, laidByText := true, laidKinds := [.called, .called, .called], laidTests := true, laidLooks := .later, goes := false }
def FnPeekOverJoinedTextToldSaid : Prop := Claim7.holds Tryf.pinned (.plain (OpenSpec.ofChange fnPeekOverJoinedTextSpec)) fnPeekOverJoinedTextCard
/-- ITS FALSE NEIGHBOUR. Refute it at one input. -/
def FnPeekOverJoinedTextToldWrongFalsely : Prop := Claim7.holds Tryf.pinned (.plain (OpenSpec.ofChange fnPeekOverJoinedTextWrong)) fnPeekOverJoinedTextCard

/-- THE TOLD AND TIED CARD OF 'zzlaws_internal_jsonpick_b1.FnDelimWalksDelimiters'. -/
def fnDelimWalksDelimitersCard : Claim7 := { stood := { row := fnDelimWalksDelimitersRow, standIns := [], harness := (true, "639aad5448d1b1ec701601c4bccdf43d76990653af57fa373bd7cc1b885cc373"), looks := true }, told := true, laidByText := true, laidKinds := [.handle, .called, .called, .called], laidTests := true, laidLooks := .later, goes := false }
def FnDelimWalksDelimitersToldSaid : Prop := Claim7.holds Tryf.pinned (.plain (OpenSpec.ofChange fnDelimWalksDelimitersSpec)) fnDelimWalksDelimitersCard
/-- ITS FALSE NEIGHBOUR. Refute it at one input. -/
def FnDelimWalksDelimitersToldWrongFalsely : Prop := Claim7.holds Tryf.pinned (.plain (OpenSpec.ofChange fnDelimWalksDelimitersWrong)) fnDelimWalksDelimitersCard

/-- THE TOLD AND TIED CARD OF 'zzlaws_internal_jsonpick_b1.FnDelimRefusesAllButTheNextByte'. -/
def fnDelimRefusesAllButTheNextByteCard : Claim7 := { stood := { row := fnDelimRefusesAllButTheNextByteRow, standIns := [], harness := (true, "639aad5448d1b1ec701601c4bccdf43d76990653af57fa373bd7cc1b885cc373"), looks := true }, told := true, laidByText := true, laidKinds := [.handle, .called, .called, .called], laidTests := true, laidLooks := .later, goes := false }
def FnDelimRefusesAllButTheNextByteToldSaid : Prop := Claim7.holds Tryf.pinned (.plain (OpenSpec.ofChange fnDelimRefusesAllButTheNextByteSpec)) fnDelimRefusesAllButTheNextByteCard
/-- ITS FALSE NEIGHBOUR. Refute it at one input. -/
def FnDelimRefusesAllButTheNextByteToldWrongFalsely : Prop := Claim7.holds Tryf.pinned (.plain (OpenSpec.ofChange fnDelimRefusesAllButTheNextByteWrong)) fnDelimRefusesAllButTheNextByteCard

/-- THE TOLD AND TIED CARD OF 'zzlaws_internal_jsonpick_b1.FnMoreWalksNestedEmptyArrays'. -/
def fnMoreWalksNestedEmptyArraysCard : Claim7 := { stood := { row := fnMoreWalksNestedEmptyArraysRow, standIns := [], harness := (true, "639aad5448d1b1ec701601c4bccdf43d76990653af57fa373bd7cc1b885cc373"), looks := true }, told := true, laidByText := true, laidKinds := [.handle, .called, .called, .called], laidTests := true, laidLooks := .later, goes := false }
def FnMoreWalksNestedEmptyArraysToldSaid : Prop := Claim7.holds Tryf.pinned (.plain (OpenSpec.ofChange fnMoreWalksNestedEmptyArraysSpec)) fnMoreWalksNestedEmptyArraysCard
/-- ITS FALSE NEIGHBOUR. Refute it at one input. -/
def FnMoreWalksNestedEmptyArraysToldWrongFalsely : Prop := Claim7.holds Tryf.pinned (.plain (OpenSpec.ofChange fnMoreWalksNestedEmptyArraysWrong)) fnMoreWalksNestedEmptyArraysCard

/-- THE TOLD AND TIED CARD OF 'zzlaws_internal_jsonpick_b1.FnMoreStepsPastOneByteAtMost'. -/
def fnMoreStepsPastOneByteAtMostCard : Claim7 := { stood := { row := fnMoreStepsPastOneByteAtMostRow, standIns := [], harness := (true, "639aad5448d1b1ec701601c4bccdf43d76990653af57fa373bd7cc1b885cc373"), looks := true }, told := true, laidByText := true, laidKinds := [.handle, .called, .called, .called], laidTests := true, laidLooks := .later, goes := false }
def FnMoreStepsPastOneByteAtMostToldSaid : Prop := Claim7.holds Tryf.pinned (.plain (OpenSpec.ofChange fnMoreStepsPastOneByteAtMostSpec)) fnMoreStepsPastOneByteAtMostCard
/-- ITS FALSE NEIGHBOUR. Refute it at one input. -/
def FnMoreStepsPastOneByteAtMostToldWrongFalsely : Prop := Claim7.holds Tryf.pinned (.plain (OpenSpec.ofChange fnMoreStepsPastOneByteAtMostWrong)) fnMoreStepsPastOneByteAtMostCard
end Rows
end Go.Proofs.Qxb6614003aFmt
