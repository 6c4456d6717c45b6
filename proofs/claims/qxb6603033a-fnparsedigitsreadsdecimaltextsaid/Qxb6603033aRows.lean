/-
  No cell of these rows narrows 'for every input' (looked for: loops, veiled, ifaces, maps, wideKeys, modest, calm, conditions, laid).
  DERIVED. THE GIVEN ROWS OF THIS SEAT. 6 by the template 'for every input the law returns true; each argument reads behind the call as it read before'; 0 by the template 'total and deterministic' (their statements: Qxb6603033aTotals.lean).
  GIVEN WITH THE SEED: the statements are not yours to turn. If you find one false, say at which input.
  Laid BY PROGRAM, IN A SANDBOX (cutbox-rows.mjs): the forced cells as the released guide's own fill.sh prints them over the translation 28f84e7132faa164… (all of the seat's roots in one cut). By AI agents, Wed Nov 11 2026. No macro, syntax, notation, axiom, sorry.
-/
import Derived.Test.Qxb6603033aChecked
import GoSem.Claim
import GoSem.ClaimJoined
import GoSem.ClaimMapViews
import Derived.JoinedTies
import Derived.KernelRfl
namespace Go.Proofs.Qxb6603033a
/- THE CELL 'sum', in the pinned program and in every row, IS THE sha256 OF THE DUMP (.gsa) THAT Qxb6603033aProg.lean LOADS. Nothing in Lean hashes anything: it is a label: what it is worth is what the hold of that sum in a sandbox is worth. -/
noncomputable def Try.pinned : Pinned := { name := "qxb6603033a", sum := "28f84e7132faa164987ef09596597eba51b596a0ce9f52171e3f25295df15d25", checked := Try.checked }
namespace Rows
def none {H : Type} : Left H := { results := [], args := [] }

/-- 'zzlaws_root_b1.FnIsRegNameClosedUnderConcat': WHATEVER THE INPUT: true; the input reads as it did. -/
def fnIsRegNameClosedUnderConcatSpec : ChangeSpec := { name := "fnIsRegNameClosedUnderConcat", fn := fun _ => fun
  | [d1, d2] => { results := [.lit (.bool true)], args := [d1, d2] }
  | _ => none }
def fnIsRegNameClosedUnderConcatRow : OpenClaim := { program := "qxb6603033a", sum := "28f84e7132faa164987ef09596597eba51b596a0ce9f52171e3f25295df15d25", func := "example.com/holdfast/holdfast/zzlaws_root_b1.FnIsRegNameClosedUnderConcat", spec := "fnIsRegNameClosedUnderConcat", inPlace := ["internal/bytealg.IndexByteString", "internal/bytealg.IndexString"], named := ["internal/bytealg.MaxLen"], apart := false }
def FnIsRegNameClosedUnderConcatSaid : Prop := fnIsRegNameClosedUnderConcatRow.holds Try.pinned (OpenSpec.ofChange fnIsRegNameClosedUnderConcatSpec)

/-- ITS FALSE NEIGHBOUR: 'it returns false'. Refute it at one input. -/
def fnIsRegNameClosedUnderConcatWrong : ChangeSpec := { name := "fnIsRegNameClosedUnderConcat", fn := fun _ => fun
  | [d1, d2] => { results := [.lit (.bool false)], args := [d1, d2] }
  | _ => none }
def FnIsRegNameClosedUnderConcatWrongFalsely : Prop := fnIsRegNameClosedUnderConcatRow.holds Try.pinned (OpenSpec.ofChange fnIsRegNameClosedUnderConcatWrong)

/-- 'zzlaws_root_b1.FnIsRegNameAcceptsPercentEncoding': WHATEVER THE INPUT: true; the input reads as it did. -/
def fnIsRegNameAcceptsPercentEncodingSpec : ChangeSpec := { name := "fnIsRegNameAcceptsPercentEncoding", fn := fun _ => fun
  | [d] => { results := [.lit (.bool true)], args := [d] }
  | _ => none }
def fnIsRegNameAcceptsPercentEncodingRow : OpenClaim := { program := "qxb6603033a", sum := "28f84e7132faa164987ef09596597eba51b596a0ce9f52171e3f25295df15d25", func := "example.com/holdfast/holdfast/zzlaws_root_b1.FnIsRegNameAcceptsPercentEncoding", spec := "fnIsRegNameAcceptsPercentEncoding", inPlace := ["internal/bytealg.IndexByteString", "internal/bytealg.IndexString"], named := ["internal/bytealg.MaxLen"], apart := false }
def FnIsRegNameAcceptsPercentEncodingSaid : Prop := fnIsRegNameAcceptsPercentEncodingRow.holds Try.pinned (OpenSpec.ofChange fnIsRegNameAcceptsPercentEncodingSpec)

/-- ITS FALSE NEIGHBOUR: 'it returns false'. Refute it at one input. -/
def fnIsRegNameAcceptsPercentEncodingWrong : ChangeSpec := { name := "fnIsRegNameAcceptsPercentEncoding", fn := fun _ => fun
  | [d] => { results := [.lit (.bool false)], args := [d] }
  | _ => none }
def FnIsRegNameAcceptsPercentEncodingWrongFalsely : Prop := fnIsRegNameAcceptsPercentEncodingRow.holds Try.pinned (OpenSpec.ofChange fnIsRegNameAcceptsPercentEncodingWrong)

/-- 'zzlaws_root_b1.FnParseDigitsSpec': WHATEVER THE INPUT: true; the input reads as it did. -/
def fnParseDigitsSpecSpec : ChangeSpec := { name := "fnParseDigitsSpec", fn := fun _ => fun
  | [d1, d2] => { results := [.lit (.bool true)], args := [d1, d2] }
  | _ => none }
def fnParseDigitsSpecRow : OpenClaim := { program := "qxb6603033a", sum := "28f84e7132faa164987ef09596597eba51b596a0ce9f52171e3f25295df15d25", func := "example.com/holdfast/holdfast/zzlaws_root_b1.FnParseDigitsSpec", spec := "fnParseDigitsSpec", apart := false }
def FnParseDigitsSpecSaid : Prop := fnParseDigitsSpecRow.holds Try.pinned (OpenSpec.ofChange fnParseDigitsSpecSpec)

/-- ITS FALSE NEIGHBOUR: 'it returns false'. Refute it at one input. -/
def fnParseDigitsSpecWrong : ChangeSpec := { name := "fnParseDigitsSpec", fn := fun _ => fun
  | [d1, d2] => { results := [.lit (.bool false)], args := [d1, d2] }
  | _ => none }
def FnParseDigitsSpecWrongFalsely : Prop := fnParseDigitsSpecRow.holds Try.pinned (OpenSpec.ofChange fnParseDigitsSpecWrong)

/-- 'zzlaws_root_b1.FnParseDigitsReadsDecimalText': WHATEVER THE INPUT: true; the input reads as it did. -/
def fnParseDigitsReadsDecimalTextSpec : ChangeSpec := { name := "fnParseDigitsReadsDecimalText", fn := fun _ => fun
  | [d1, d2] => { results := [.lit (.bool true)], args := [d1, d2] }
  | _ => none }
def fnParseDigitsReadsDecimalTextRow : OpenClaim := { program := "qxb6603033a", sum := "28f84e7132faa164987ef09596597eba51b596a0ce9f52171e3f25295df15d25", func := "example.com/holdfast/holdfast/zzlaws_root_b1.FnParseDigitsReadsDecimalText", spec := "fnParseDigitsReadsDecimalText", apart := false }
def FnParseDigitsReadsDecimalTextSaid : Prop := fnParseDigitsReadsDecimalTextRow.holds Try.pinned (OpenSpec.ofChange fnParseDigitsReadsDecimalTextSpec)

/-- ITS FALSE NEIGHBOUR: 'it returns false'. Refute it at one input. -/
def fnParseDigitsReadsDecimalTextWrong : ChangeSpec := { name := "fnParseDigitsReadsDecimalText", fn := fun _ => fun
  | [d1, d2] => { results := [.lit (.bool false)], args := [d1, d2] }
  | _ => none }
def FnParseDigitsReadsDecimalTextWrongFalsely : Prop := fnParseDigitsReadsDecimalTextRow.holds Try.pinned (OpenSpec.ofChange fnParseDigitsReadsDecimalTextWrong)

/-- 'zzlaws_root_b1.FnTokenReadsLongestRun': WHATEVER THE INPUT: true; the input reads as it did. -/
def fnTokenReadsLongestRunSpec : ChangeSpec := { name := "fnTokenReadsLongestRun", fn := fun _ => fun
  | [d1, d2] => { results := [.lit (.bool true)], args := [d1, d2] }
  | _ => none }
def fnTokenReadsLongestRunRow : OpenClaim := { program := "qxb6603033a", sum := "28f84e7132faa164987ef09596597eba51b596a0ce9f52171e3f25295df15d25", func := "example.com/holdfast/holdfast/zzlaws_root_b1.FnTokenReadsLongestRun", spec := "fnTokenReadsLongestRun", inPlace := ["internal/bytealg.IndexByteString"], apart := false }
def FnTokenReadsLongestRunSaid : Prop := fnTokenReadsLongestRunRow.holds Try.pinned (OpenSpec.ofChange fnTokenReadsLongestRunSpec)

/-- ITS FALSE NEIGHBOUR: 'it returns false'. Refute it at one input. -/
def fnTokenReadsLongestRunWrong : ChangeSpec := { name := "fnTokenReadsLongestRun", fn := fun _ => fun
  | [d1, d2] => { results := [.lit (.bool false)], args := [d1, d2] }
  | _ => none }
def FnTokenReadsLongestRunWrongFalsely : Prop := fnTokenReadsLongestRunRow.holds Try.pinned (OpenSpec.ofChange fnTokenReadsLongestRunWrong)

/-- 'zzlaws_root_b1.FnTokenShiftAndStop': WHATEVER THE INPUT: true; the input reads as it did. -/
def fnTokenShiftAndStopSpec : ChangeSpec := { name := "fnTokenShiftAndStop", fn := fun _ => fun
  | [d1, d2] => { results := [.lit (.bool true)], args := [d1, d2] }
  | _ => none }
def fnTokenShiftAndStopRow : OpenClaim := { program := "qxb6603033a", sum := "28f84e7132faa164987ef09596597eba51b596a0ce9f52171e3f25295df15d25", func := "example.com/holdfast/holdfast/zzlaws_root_b1.FnTokenShiftAndStop", spec := "fnTokenShiftAndStop", inPlace := ["internal/bytealg.IndexByteString"], apart := false }
def FnTokenShiftAndStopSaid : Prop := fnTokenShiftAndStopRow.holds Try.pinned (OpenSpec.ofChange fnTokenShiftAndStopSpec)

/-- ITS FALSE NEIGHBOUR: 'it returns false'. Refute it at one input. -/
def fnTokenShiftAndStopWrong : ChangeSpec := { name := "fnTokenShiftAndStop", fn := fun _ => fun
  | [d1, d2] => { results := [.lit (.bool false)], args := [d1, d2] }
  | _ => none }
def FnTokenShiftAndStopWrongFalsely : Prop := fnTokenShiftAndStopRow.holds Try.pinned (OpenSpec.ofChange fnTokenShiftAndStopWrong)

end Rows
end Go.Proofs.Qxb6603033a
