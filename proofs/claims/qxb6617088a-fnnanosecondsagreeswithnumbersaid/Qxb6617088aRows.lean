/-
  No cell of these rows narrows 'for every input' (looked for: loops, veiled, ifaces, maps, wideKeys, modest, calm, conditions, laid).
  DERIVED. THE GIVEN ROWS OF THIS SEAT. 4 by the template 'for every input the law returns true; each argument reads behind the call as it read before'; 0 by the template 'total and deterministic' (their statements: Qxb6617088aTotals.lean).
  GIVEN WITH THE SEED: the statements are not yours to turn. If you find one false, say at which input.
  Laid BY PROGRAM, IN A SANDBOX (cutbox-rows.mjs): the forced cells as the released guide's own fill.sh prints them over the translation 26c96879632b40dd… (all of the seat's roots in one cut). By AI agents, Wed Nov 11 2026. No macro, syntax, notation, axiom, sorry.
-/
import Derived.Test.Qxb6617088aChecked
import GoSem.Claim
import GoSem.ClaimJoined
import GoSem.ClaimMapViews
import Derived.JoinedTies
import Derived.KernelRfl
namespace Go.Proofs.Qxb6617088a
/- THE CELL 'sum', in the pinned program and in every row, IS THE sha256 OF THE DUMP (.gsa) THAT Qxb6617088aProg.lean LOADS. Nothing in Lean hashes anything: it is a label: what it is worth is what the hold of that sum in a sandbox is worth. -/
noncomputable def Try.pinned : Pinned := { name := "qxb6617088a", sum := "26c96879632b40ddf8c089318b2397c7939ecd33e3518811e45168dedc76abb8", checked := Try.checked }
namespace Rows
def none {H : Type} : Left H := { results := [], args := [] }

/-- 'zzlaws_internal_envelope_b1.FnNumberSplit': WHATEVER THE INPUT: true; the input reads as it did. -/
def fnNumberSplitSpec : ChangeSpec := { name := "fnNumberSplit", fn := fun _ => fun
  | [d1, d2] => { results := [.lit (.bool true)], args := [d1, d2] }
  | _ => none }
def fnNumberSplitRow : OpenClaim := { program := "qxb6617088a", sum := "26c96879632b40ddf8c089318b2397c7939ecd33e3518811e45168dedc76abb8", func := "example.com/wayline/wayline/zzlaws_internal_envelope_b1.FnNumberSplit", spec := "fnNumberSplit", apart := false }
def FnNumberSplitSaid : Prop := fnNumberSplitRow.holds Try.pinned (OpenSpec.ofChange fnNumberSplitSpec)

/-- ITS FALSE NEIGHBOUR: 'it returns false'. Refute it at one input. -/
def fnNumberSplitWrong : ChangeSpec := { name := "fnNumberSplit", fn := fun _ => fun
  | [d1, d2] => { results := [.lit (.bool false)], args := [d1, d2] }
  | _ => none }
def FnNumberSplitWrongFalsely : Prop := fnNumberSplitRow.holds Try.pinned (OpenSpec.ofChange fnNumberSplitWrong)

/-- 'zzlaws_internal_envelope_b1.FnNanosecondsAgreesWithNumber': WHATEVER THE INPUT: true; the input reads as it did. -/
def fnNanosecondsAgreesWithNumberSpec : ChangeSpec := { name := "fnNanosecondsAgreesWithNumber", fn := fun _ => fun
  | [d] => { results := [.lit (.bool true)], args := [d] }
  | _ => none }
def fnNanosecondsAgreesWithNumberRow : OpenClaim := { program := "qxb6617088a", sum := "26c96879632b40ddf8c089318b2397c7939ecd33e3518811e45168dedc76abb8", func := "example.com/wayline/wayline/zzlaws_internal_envelope_b1.FnNanosecondsAgreesWithNumber", spec := "fnNanosecondsAgreesWithNumber", apart := false }
def FnNanosecondsAgreesWithNumberSaid : Prop := fnNanosecondsAgreesWithNumberRow.holds Try.pinned (OpenSpec.ofChange fnNanosecondsAgreesWithNumberSpec)

/-- ITS FALSE NEIGHBOUR: 'it returns false'. Refute it at one input. -/
def fnNanosecondsAgreesWithNumberWrong : ChangeSpec := { name := "fnNanosecondsAgreesWithNumber", fn := fun _ => fun
  | [d] => { results := [.lit (.bool false)], args := [d] }
  | _ => none }
def FnNanosecondsAgreesWithNumberWrongFalsely : Prop := fnNanosecondsAgreesWithNumberRow.holds Try.pinned (OpenSpec.ofChange fnNanosecondsAgreesWithNumberWrong)

/-- 'zzlaws_internal_envelope_b1.FnNanosecondsDigitAtEitherEnd': WHATEVER THE INPUT: true; the input reads as it did. -/
def fnNanosecondsDigitAtEitherEndSpec : ChangeSpec := { name := "fnNanosecondsDigitAtEitherEnd", fn := fun _ => fun
  | [d1, d2] => { results := [.lit (.bool true)], args := [d1, d2] }
  | _ => none }
def fnNanosecondsDigitAtEitherEndRow : OpenClaim := { program := "qxb6617088a", sum := "26c96879632b40ddf8c089318b2397c7939ecd33e3518811e45168dedc76abb8", func := "example.com/wayline/wayline/zzlaws_internal_envelope_b1.FnNanosecondsDigitAtEitherEnd", spec := "fnNanosecondsDigitAtEitherEnd", apart := false }
def FnNanosecondsDigitAtEitherEndSaid : Prop := fnNanosecondsDigitAtEitherEndRow.holds Try.pinned (OpenSpec.ofChange fnNanosecondsDigitAtEitherEndSpec)

/-- ITS FALSE NEIGHBOUR: 'it returns false'. Refute it at one input. -/
def fnNanosecondsDigitAtEitherEndWrong : ChangeSpec := { name := "fnNanosecondsDigitAtEitherEnd", fn := fun _ => fun
  | [d1, d2] => { results := [.lit (.bool false)], args := [d1, d2] }
  | _ => none }
def FnNanosecondsDigitAtEitherEndWrongFalsely : Prop := fnNanosecondsDigitAtEitherEndRow.holds Try.pinned (OpenSpec.ofChange fnNanosecondsDigitAtEitherEndWrong)

/-- 'zzlaws_internal_envelope_b1.FnStringEndFindsClosingQuote': WHATEVER THE INPUT: true; the input reads as it did. -/
def fnStringEndFindsClosingQuoteSpec : ChangeSpec := { name := "fnStringEndFindsClosingQuote", fn := fun _ => fun
  | [d1, d2, d3, d4] => { results := [.lit (.bool true)], args := [d1, d2, d3, d4] }
  | _ => none }
def fnStringEndFindsClosingQuoteRow : OpenClaim := { program := "qxb6617088a", sum := "26c96879632b40ddf8c089318b2397c7939ecd33e3518811e45168dedc76abb8", func := "example.com/wayline/wayline/zzlaws_internal_envelope_b1.FnStringEndFindsClosingQuote", spec := "fnStringEndFindsClosingQuote", inPlace := ["internal/bytealg.IndexByte"], apart := false }
def FnStringEndFindsClosingQuoteSaid : Prop := fnStringEndFindsClosingQuoteRow.holds Try.pinned (OpenSpec.ofChange fnStringEndFindsClosingQuoteSpec)

/-- ITS FALSE NEIGHBOUR: 'it returns false'. Refute it at one input. -/
def fnStringEndFindsClosingQuoteWrong : ChangeSpec := { name := "fnStringEndFindsClosingQuote", fn := fun _ => fun
  | [d1, d2, d3, d4] => { results := [.lit (.bool false)], args := [d1, d2, d3, d4] }
  | _ => none }
def FnStringEndFindsClosingQuoteWrongFalsely : Prop := fnStringEndFindsClosingQuoteRow.holds Try.pinned (OpenSpec.ofChange fnStringEndFindsClosingQuoteWrong)

end Rows
end Go.Proofs.Qxb6617088a
