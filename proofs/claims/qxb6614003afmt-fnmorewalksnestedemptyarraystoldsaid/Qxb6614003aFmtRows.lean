/-
  NARROWER THAN 'FOR EVERY INPUT', by the rows' own cells (each row's printed sentence says how): FnPeekFirstNonSpaceTwice: laid · FnPeekOverJoinedText: laid · FnDelimWalksDelimiters: laid · FnDelimRefusesAllButTheNextByte: laid · FnMoreWalksNestedEmptyArrays: laid · FnMoreStepsPastOneByteAtMost: laid.
  DERIVED. THE GIVEN ROWS OF THIS SEAT. 6 by the template 'for every input the law returns true; each argument reads behind the call as it read before'; 0 by the template 'total and deterministic' (their statements: Qxb6614003aFmtTotals.lean).
  GIVEN WITH THE SEED: the statements are not yours to turn. If you find one false, say at which input.
  Laid BY PROGRAM, IN A SANDBOX (cutbox-rows.mjs): the forced cells as the released guide's own fill.sh prints them over the translation a81eb8792540047a… (all of the seat's roots in one cut). By AI agents, Wed Nov 11 2026. No macro, syntax, notation, axiom, sorry.
-/
import Derived.Test.Qxb6614003aFmtChecked
import GoSem.Claim
import GoSem.ClaimJoined
import GoSem.ClaimMapViews
import Derived.JoinedTies
import Derived.KernelRfl
namespace Go.Proofs.Qxb6614003aFmt
/- THE CELL 'sum', in the pinned program and in every row, IS THE sha256 OF THE DUMP (.gsa) THAT Qxb6614003aFmtProg.lean LOADS. Nothing in Lean hashes anything: it is a label: what it is worth is what the hold of that sum in a sandbox is worth. -/
noncomputable def Tryf.pinned : Pinned := { name := "qxb6614003afmt", sum := "a81eb8792540047a0e06f8e5a367853c61e16042b0e974ba8ee15ae6fa6daec9", checked := Tryf.checked }
namespace Rows
def none {H : Type} : Left H := { results := [], args := [] }

/- WHAT THE LISTED PACKAGE-LEVEL VARIABLES READ AS WHEN THE CALL BEGINS. Each datum BY PROGRAM (the guide's laid-datum.mjs) off the statement by which the dump's own 'gosem.cut.vars' lays the variable. In a bare row this is a premise. The card (Qxb6614003aFmtCards.lean) ties it to the program's text. -/
def laid_io_ErrShortBuffer {H : Type} : DataW H := .iface "*errors.errorString" (.ptr (.agg [.lit (.string [115, 104, 111, 114, 116, 32, 98, 117, 102, 102, 101, 114])]))
def laid_io_EOF {H : Type} : DataW H := .iface "*errors.errorString" (.ptr (.agg [.lit (.string [69, 79, 70])]))
def laid_io_ErrUnexpectedEOF {H : Type} : DataW H := .iface "*errors.errorString" (.ptr (.agg [.lit (.string [117, 110, 101, 120, 112, 101, 99, 116, 101, 100, 32, 69, 79, 70])]))
def laid_errors_errorType {H : Type} : DataW H := .iface "internal/reflectlite.rtype" (.agg [.ptr (.lit (.string [101, 114, 114, 111, 114]))])

/-- 'zzlaws_internal_jsonpick_b1.FnPeekFirstNonSpaceTwice': WHATEVER THE INPUT: true; the input reads as it did. -/
def fnPeekFirstNonSpaceTwiceSpec : ChangeSpec := { name := "fnPeekFirstNonSpaceTwice", fn := fun _ => fun
  | [d] => { results := [.lit (.bool true)], args := [d] }
  | _ => none }
def fnPeekFirstNonSpaceTwiceRow : OpenClaim := { program := "qxb6614003afmt", sum := "a81eb8792540047a0e06f8e5a367853c61e16042b0e974ba8ee15ae6fa6daec9", func := "example.com/tenure/tenure/zzlaws_internal_jsonpick_b1.FnPeekFirstNonSpaceTwice", spec := "fnPeekFirstNonSpaceTwice", stops := ["fmt.Sprintf", "fmt.errorf, its operands' methods called"], inPlace := ["fmt.errorf"], unfollowed := true, recurses := true, named := ["io.ErrUnexpectedEOF", "io.EOF", "io.ErrShortBuffer"], apart := false, laid := [("io.ErrShortBuffer", laid_io_ErrShortBuffer), ("io.EOF", laid_io_EOF), ("io.ErrUnexpectedEOF", laid_io_ErrUnexpectedEOF)] }
/-- NO THEOREM (fmt's text is open here; it may be false): for the released tool's asking of the row's closed facts alone. THE STATEMENT IS 'FnPeekFirstNonSpaceTwiceToldSaid' (Qxb6614003aFmtCards.lean). -/
def FnPeekFirstNonSpaceTwiceFormAsk : Prop := fnPeekFirstNonSpaceTwiceRow.holds Tryf.pinned (OpenSpec.ofChange fnPeekFirstNonSpaceTwiceSpec)

/-- ITS FALSE NEIGHBOUR: 'it returns false'. Refute it at one input. -/
def fnPeekFirstNonSpaceTwiceWrong : ChangeSpec := { name := "fnPeekFirstNonSpaceTwice", fn := fun _ => fun
  | [d] => { results := [.lit (.bool false)], args := [d] }
  | _ => none }
def FnPeekFirstNonSpaceTwiceWrongFormAsk : Prop := fnPeekFirstNonSpaceTwiceRow.holds Tryf.pinned (OpenSpec.ofChange fnPeekFirstNonSpaceTwiceWrong)

/-- 'zzlaws_internal_jsonpick_b1.FnPeekOverJoinedText': WHATEVER THE INPUT: true; the input reads as it did. -/
def fnPeekOverJoinedTextSpec : ChangeSpec := { name := "fnPeekOverJoinedText", fn := fun _ => fun
  | [d1, d2] => { results := [.lit (.bool true)], args := [d1, d2] }
  | _ => none }
def fnPeekOverJoinedTextRow : OpenClaim := { program := "qxb6614003afmt", sum := "a81eb8792540047a0e06f8e5a367853c61e16042b0e974ba8ee15ae6fa6daec9", func := "example.com/tenure/tenure/zzlaws_internal_jsonpick_b1.FnPeekOverJoinedText", spec := "fnPeekOverJoinedText", stops := ["fmt.Sprintf", "fmt.errorf, its operands' methods called"], inPlace := ["fmt.errorf"], unfollowed := true, recurses := true, named := ["io.ErrUnexpectedEOF", "io.EOF", "io.ErrShortBuffer"], apart := false, laid := [("io.ErrShortBuffer", laid_io_ErrShortBuffer), ("io.EOF", laid_io_EOF), ("io.ErrUnexpectedEOF", laid_io_ErrUnexpectedEOF)] }
/-- NO THEOREM (fmt's text is open here; it may be false): for the released tool's asking of the row's closed facts alone. THE STATEMENT IS 'FnPeekOverJoinedTextToldSaid' (Qxb6614003aFmtCards.lean). -/
def FnPeekOverJoinedTextFormAsk : Prop := fnPeekOverJoinedTextRow.holds Tryf.pinned (OpenSpec.ofChange fnPeekOverJoinedTextSpec)

/-- ITS FALSE NEIGHBOUR: 'it returns false'. Refute it at one input. -/
def fnPeekOverJoinedTextWrong : ChangeSpec := { name := "fnPeekOverJoinedText", fn := fun _ => fun
  | [d1, d2] => { results := [.lit (.bool false)], args := [d1, d2] }
  | _ => none }
def FnPeekOverJoinedTextWrongFormAsk : Prop := fnPeekOverJoinedTextRow.holds Tryf.pinned (OpenSpec.ofChange fnPeekOverJoinedTextWrong)

/-- 'zzlaws_internal_jsonpick_b1.FnDelimWalksDelimiters': WHATEVER THE INPUT: true; the input reads as it did. -/
def fnDelimWalksDelimitersSpec : ChangeSpec := { name := "fnDelimWalksDelimiters", fn := fun _ => fun
  | [d] => { results := [.lit (.bool true)], args := [d] }
  | _ => none }
def fnDelimWalksDelimitersRow : OpenClaim := { program := "qxb6614003afmt", sum := "a81eb8792540047a0e06f8e5a367853c61e16042b0e974ba8ee15ae6fa6daec9", func := "example.com/tenure/tenure/zzlaws_internal_jsonpick_b1.FnDelimWalksDelimiters", spec := "fnDelimWalksDelimiters", stops := ["fmt.Sprintf", "fmt.errorf, its operands' methods called"], inPlace := ["fmt.errorf", "fmt.Sprintf", "internal/reflectlite.ValueOf", "(internal/reflectlite.Value).Type", "(internal/reflectlite.Value).IsNil", "internal/reflectlite.TypeOf", "(internal/reflectlite.Value).Elem", "(internal/reflectlite.Value).Set"], unfollowed := true, recurses := true, named := ["io.ErrUnexpectedEOF", "io.EOF", "io.ErrShortBuffer", "errors.errorType"], apart := false, laid := [("errors.errorType", laid_errors_errorType), ("io.ErrShortBuffer", laid_io_ErrShortBuffer), ("io.EOF", laid_io_EOF), ("io.ErrUnexpectedEOF", laid_io_ErrUnexpectedEOF)] }
/-- NO THEOREM (fmt's text is open here; it may be false): for the released tool's asking of the row's closed facts alone. THE STATEMENT IS 'FnDelimWalksDelimitersToldSaid' (Qxb6614003aFmtCards.lean). -/
def FnDelimWalksDelimitersFormAsk : Prop := fnDelimWalksDelimitersRow.holds Tryf.pinned (OpenSpec.ofChange fnDelimWalksDelimitersSpec)

/-- ITS FALSE NEIGHBOUR: 'it returns false'. Refute it at one input. -/
def fnDelimWalksDelimitersWrong : ChangeSpec := { name := "fnDelimWalksDelimiters", fn := fun _ => fun
  | [d] => { results := [.lit (.bool false)], args := [d] }
  | _ => none }
def FnDelimWalksDelimitersWrongFormAsk : Prop := fnDelimWalksDelimitersRow.holds Tryf.pinned (OpenSpec.ofChange fnDelimWalksDelimitersWrong)

/-- 'zzlaws_internal_jsonpick_b1.FnDelimRefusesAllButTheNextByte': WHATEVER THE INPUT: true; the input reads as it did. -/
def fnDelimRefusesAllButTheNextByteSpec : ChangeSpec := { name := "fnDelimRefusesAllButTheNextByte", fn := fun _ => fun
  | [d1, d2] => { results := [.lit (.bool true)], args := [d1, d2] }
  | _ => none }
def fnDelimRefusesAllButTheNextByteRow : OpenClaim := { program := "qxb6614003afmt", sum := "a81eb8792540047a0e06f8e5a367853c61e16042b0e974ba8ee15ae6fa6daec9", func := "example.com/tenure/tenure/zzlaws_internal_jsonpick_b1.FnDelimRefusesAllButTheNextByte", spec := "fnDelimRefusesAllButTheNextByte", stops := ["fmt.Sprintf", "fmt.errorf, its operands' methods called"], inPlace := ["fmt.errorf", "fmt.Sprintf", "internal/reflectlite.ValueOf", "(internal/reflectlite.Value).Type", "(internal/reflectlite.Value).IsNil", "internal/reflectlite.TypeOf", "(internal/reflectlite.Value).Elem", "(internal/reflectlite.Value).Set"], unfollowed := true, recurses := true, named := ["io.ErrUnexpectedEOF", "io.EOF", "io.ErrShortBuffer", "errors.errorType"], apart := false, laid := [("errors.errorType", laid_errors_errorType), ("io.ErrShortBuffer", laid_io_ErrShortBuffer), ("io.EOF", laid_io_EOF), ("io.ErrUnexpectedEOF", laid_io_ErrUnexpectedEOF)] }
/-- NO THEOREM (fmt's text is open here; it may be false): for the released tool's asking of the row's closed facts alone. THE STATEMENT IS 'FnDelimRefusesAllButTheNextByteToldSaid' (Qxb6614003aFmtCards.lean). -/
def FnDelimRefusesAllButTheNextByteFormAsk : Prop := fnDelimRefusesAllButTheNextByteRow.holds Tryf.pinned (OpenSpec.ofChange fnDelimRefusesAllButTheNextByteSpec)

/-- ITS FALSE NEIGHBOUR: 'it returns false'. Refute it at one input. -/
def fnDelimRefusesAllButTheNextByteWrong : ChangeSpec := { name := "fnDelimRefusesAllButTheNextByte", fn := fun _ => fun
  | [d1, d2] => { results := [.lit (.bool false)], args := [d1, d2] }
  | _ => none }
def FnDelimRefusesAllButTheNextByteWrongFormAsk : Prop := fnDelimRefusesAllButTheNextByteRow.holds Tryf.pinned (OpenSpec.ofChange fnDelimRefusesAllButTheNextByteWrong)

/-- 'zzlaws_internal_jsonpick_b1.FnMoreWalksNestedEmptyArrays': WHATEVER THE INPUT: true; the input reads as it did. -/
def fnMoreWalksNestedEmptyArraysSpec : ChangeSpec := { name := "fnMoreWalksNestedEmptyArrays", fn := fun _ => fun
  | [d] => { results := [.lit (.bool true)], args := [d] }
  | _ => none }
def fnMoreWalksNestedEmptyArraysRow : OpenClaim := { program := "qxb6614003afmt", sum := "a81eb8792540047a0e06f8e5a367853c61e16042b0e974ba8ee15ae6fa6daec9", func := "example.com/tenure/tenure/zzlaws_internal_jsonpick_b1.FnMoreWalksNestedEmptyArrays", spec := "fnMoreWalksNestedEmptyArrays", stops := ["fmt.Sprintf", "fmt.errorf, its operands' methods called"], inPlace := ["fmt.errorf", "fmt.Sprintf", "internal/reflectlite.ValueOf", "(internal/reflectlite.Value).Type", "(internal/reflectlite.Value).IsNil", "internal/reflectlite.TypeOf", "(internal/reflectlite.Value).Elem", "(internal/reflectlite.Value).Set"], unfollowed := true, recurses := true, named := ["io.ErrUnexpectedEOF", "io.EOF", "io.ErrShortBuffer", "errors.errorType"], apart := false, laid := [("errors.errorType", laid_errors_errorType), ("io.ErrShortBuffer", laid_io_ErrShortBuffer), ("io.EOF", laid_io_EOF), ("io.ErrUnexpectedEOF", laid_io_ErrUnexpectedEOF)] }
/-- NO THEOREM (fmt's text is open here; it may be false): for the released tool's asking of the row's closed facts alone. THE STATEMENT IS 'FnMoreWalksNestedEmptyArraysToldSaid' (Qxb6614003aFmtCards.lean). -/
def FnMoreWalksNestedEmptyArraysFormAsk : Prop := fnMoreWalksNestedEmptyArraysRow.holds Tryf.pinned (OpenSpec.ofChange fnMoreWalksNestedEmptyArraysSpec)

/-- ITS FALSE NEIGHBOUR: 'it returns false'. Refute it at one input. -/
def fnMoreWalksNestedEmptyArraysWrong : ChangeSpec := { name := "fnMoreWalksNestedEmptyArrays", fn := fun _ => fun
  | [d] => { results := [.lit (.bool false)], args := [d] }
  | _ => none }
def FnMoreWalksNestedEmptyArraysWrongFormAsk : Prop := fnMoreWalksNestedEmptyArraysRow.holds Tryf.pinned (OpenSpec.ofChange fnMoreWalksNestedEmptyArraysWrong)

/-- 'zzlaws_internal_jsonpick_b1.FnMoreStepsPastOneByteAtMost': WHATEVER THE INPUT: true; the input reads as it did. -/
def fnMoreStepsPastOneByteAtMostSpec : ChangeSpec := { name := "fnMoreStepsPastOneByteAtMost", fn := fun _ => fun
  | [d1, d2, d3] => { results := [.lit (.bool true)], args := [d1, d2, d3] }
  | _ => none }
def fnMoreStepsPastOneByteAtMostRow : OpenClaim := { program := "qxb6614003afmt", sum := "a81eb8792540047a0e06f8e5a367853c61e16042b0e974ba8ee15ae6fa6daec9", func := "example.com/tenure/tenure/zzlaws_internal_jsonpick_b1.FnMoreStepsPastOneByteAtMost", spec := "fnMoreStepsPastOneByteAtMost", stops := ["fmt.Sprintf", "fmt.errorf, its operands' methods called"], inPlace := ["fmt.errorf", "fmt.Sprintf", "internal/reflectlite.ValueOf", "(internal/reflectlite.Value).Type", "(internal/reflectlite.Value).IsNil", "internal/reflectlite.TypeOf", "(internal/reflectlite.Value).Elem", "(internal/reflectlite.Value).Set"], unfollowed := true, recurses := true, named := ["io.ErrUnexpectedEOF", "io.EOF", "io.ErrShortBuffer", "errors.errorType"], apart := false, laid := [("errors.errorType", laid_errors_errorType), ("io.ErrShortBuffer", laid_io_ErrShortBuffer), ("io.EOF", laid_io_EOF), ("io.ErrUnexpectedEOF", laid_io_ErrUnexpectedEOF)] }
/-- NO THEOREM (fmt's text is open here; it may be false): for the released tool's asking of the row's closed facts alone. THE STATEMENT IS 'FnMoreStepsPastOneByteAtMostToldSaid' (Qxb6614003aFmtCards.lean). -/
def FnMoreStepsPastOneByteAtMostFormAsk : Prop := fnMoreStepsPastOneByteAtMostRow.holds Tryf.pinned (OpenSpec.ofChange fnMoreStepsPastOneByteAtMostSpec)

/-- ITS FALSE NEIGHBOUR: 'it returns false'. Refute it at one input. -/
def fnMoreStepsPastOneByteAtMostWrong : ChangeSpec := { name := "fnMoreStepsPastOneByteAtMost", fn := fun _ => fun
  | [d1, d2, d3] => { results := [.lit (.bool false)], args := [d1, d2, d3] }
  | _ => none }
def FnMoreStepsPastOneByteAtMostWrongFormAsk : Prop := fnMoreStepsPastOneByteAtMostRow.holds Tryf.pinned (OpenSpec.ofChange fnMoreStepsPastOneByteAtMostWrong)

end Rows
end Go.Proofs.Qxb6614003aFmt
