/-
  No cell of these rows narrows 'for every input' (looked for: loops, veiled, ifaces, maps, wideKeys, modest, calm, conditions, laid).
  DERIVED. THE GIVEN ROWS OF THIS SEAT. 5 by the template 'for every input the law returns true; each argument reads behind the call as it read before'; 0 by the template 'total and deterministic' (their statements: Qxb6617070aTotals.lean).
  GIVEN WITH THE SEED: the statements are not yours to turn. If you find one false, say at which input.
  Laid BY PROGRAM, IN A SANDBOX (cutbox-rows.mjs): the forced cells as the released guide's own fill.sh prints them over the translation 6ef1c9550195d710… (all of the seat's roots in one cut). By AI agents, Wed Nov 11 2026. No macro, syntax, notation, axiom, sorry.
-/
import Derived.Test.Qxb6617070aChecked
import GoSem.Claim
import GoSem.ClaimJoined
import GoSem.ClaimMapViews
import Derived.JoinedTies
import Derived.KernelRfl
namespace Go.Proofs.Qxb6617070a
/- THE CELL 'sum', in the pinned program and in every row, IS THE sha256 OF THE DUMP (.gsa) THAT Qxb6617070aProg.lean LOADS. Nothing in Lean hashes anything: it is a label: what it is worth is what the hold of that sum in a sandbox is worth. -/
noncomputable def Try.pinned : Pinned := { name := "qxb6617070a", sum := "6ef1c9550195d710f90e745bb5761446d3c9867abdfc83ef15509a53651d3680", checked := Try.checked }
namespace Rows
def none {H : Type} : Left H := { results := [], args := [] }

/-- 'zzlaws_internal_bench_b1.FnDecimalMatchesPositionalModel': WHATEVER THE INPUT: true; the input reads as it did. -/
def fnDecimalMatchesPositionalModelSpec : ChangeSpec := { name := "fnDecimalMatchesPositionalModel", fn := fun _ => fun
  | [d] => { results := [.lit (.bool true)], args := [d] }
  | _ => none }
def fnDecimalMatchesPositionalModelRow : OpenClaim := { program := "qxb6617070a", sum := "6ef1c9550195d710f90e745bb5761446d3c9867abdfc83ef15509a53651d3680", func := "example.com/inferwright/inferwright/zzlaws_internal_bench_b1.FnDecimalMatchesPositionalModel", spec := "fnDecimalMatchesPositionalModel", apart := false }
def FnDecimalMatchesPositionalModelSaid : Prop := fnDecimalMatchesPositionalModelRow.holds Try.pinned (OpenSpec.ofChange fnDecimalMatchesPositionalModelSpec)

/-- ITS FALSE NEIGHBOUR: 'it returns false'. Refute it at one input. -/
def fnDecimalMatchesPositionalModelWrong : ChangeSpec := { name := "fnDecimalMatchesPositionalModel", fn := fun _ => fun
  | [d] => { results := [.lit (.bool false)], args := [d] }
  | _ => none }
def FnDecimalMatchesPositionalModelWrongFalsely : Prop := fnDecimalMatchesPositionalModelRow.holds Try.pinned (OpenSpec.ofChange fnDecimalMatchesPositionalModelWrong)

/-- 'zzlaws_internal_bench_b1.FnDecimalSplitsAtAnyCut': WHATEVER THE INPUT: true; the input reads as it did. -/
def fnDecimalSplitsAtAnyCutSpec : ChangeSpec := { name := "fnDecimalSplitsAtAnyCut", fn := fun _ => fun
  | [d1, d2] => { results := [.lit (.bool true)], args := [d1, d2] }
  | _ => none }
def fnDecimalSplitsAtAnyCutRow : OpenClaim := { program := "qxb6617070a", sum := "6ef1c9550195d710f90e745bb5761446d3c9867abdfc83ef15509a53651d3680", func := "example.com/inferwright/inferwright/zzlaws_internal_bench_b1.FnDecimalSplitsAtAnyCut", spec := "fnDecimalSplitsAtAnyCut", apart := false }
def FnDecimalSplitsAtAnyCutSaid : Prop := fnDecimalSplitsAtAnyCutRow.holds Try.pinned (OpenSpec.ofChange fnDecimalSplitsAtAnyCutSpec)

/-- ITS FALSE NEIGHBOUR: 'it returns false'. Refute it at one input. -/
def fnDecimalSplitsAtAnyCutWrong : ChangeSpec := { name := "fnDecimalSplitsAtAnyCut", fn := fun _ => fun
  | [d1, d2] => { results := [.lit (.bool false)], args := [d1, d2] }
  | _ => none }
def FnDecimalSplitsAtAnyCutWrongFalsely : Prop := fnDecimalSplitsAtAnyCutRow.holds Try.pinned (OpenSpec.ofChange fnDecimalSplitsAtAnyCutWrong)

/-- 'zzlaws_internal_bench_b1.FnStatusLineReasonPhraseIsIgnored': WHATEVER THE INPUT: true; the input reads as it did. -/
def fnStatusLineReasonPhraseIsIgnoredSpec : ChangeSpec := { name := "fnStatusLineReasonPhraseIsIgnored", fn := fun _ => fun
  | [d1, d2] => { results := [.lit (.bool true)], args := [d1, d2] }
  | _ => none }
def fnStatusLineReasonPhraseIsIgnoredRow : OpenClaim := { program := "qxb6617070a", sum := "6ef1c9550195d710f90e745bb5761446d3c9867abdfc83ef15509a53651d3680", func := "example.com/inferwright/inferwright/zzlaws_internal_bench_b1.FnStatusLineReasonPhraseIsIgnored", spec := "fnStatusLineReasonPhraseIsIgnored", apart := false }
def FnStatusLineReasonPhraseIsIgnoredSaid : Prop := fnStatusLineReasonPhraseIsIgnoredRow.holds Try.pinned (OpenSpec.ofChange fnStatusLineReasonPhraseIsIgnoredSpec)

/-- ITS FALSE NEIGHBOUR: 'it returns false'. Refute it at one input. -/
def fnStatusLineReasonPhraseIsIgnoredWrong : ChangeSpec := { name := "fnStatusLineReasonPhraseIsIgnored", fn := fun _ => fun
  | [d1, d2] => { results := [.lit (.bool false)], args := [d1, d2] }
  | _ => none }
def FnStatusLineReasonPhraseIsIgnoredWrongFalsely : Prop := fnStatusLineReasonPhraseIsIgnoredRow.holds Try.pinned (OpenSpec.ofChange fnStatusLineReasonPhraseIsIgnoredWrong)

/-- 'zzlaws_internal_bench_b1.FnTrimSpaceStripsExactlyTheBlankEnds': WHATEVER THE INPUT: true; the input reads as it did. -/
def fnTrimSpaceStripsExactlyTheBlankEndsSpec : ChangeSpec := { name := "fnTrimSpaceStripsExactlyTheBlankEnds", fn := fun _ => fun
  | [d] => { results := [.lit (.bool true)], args := [d] }
  | _ => none }
def fnTrimSpaceStripsExactlyTheBlankEndsRow : OpenClaim := { program := "qxb6617070a", sum := "6ef1c9550195d710f90e745bb5761446d3c9867abdfc83ef15509a53651d3680", func := "example.com/inferwright/inferwright/zzlaws_internal_bench_b1.FnTrimSpaceStripsExactlyTheBlankEnds", spec := "fnTrimSpaceStripsExactlyTheBlankEnds", apart := false }
def FnTrimSpaceStripsExactlyTheBlankEndsSaid : Prop := fnTrimSpaceStripsExactlyTheBlankEndsRow.holds Try.pinned (OpenSpec.ofChange fnTrimSpaceStripsExactlyTheBlankEndsSpec)

/-- ITS FALSE NEIGHBOUR: 'it returns false'. Refute it at one input. -/
def fnTrimSpaceStripsExactlyTheBlankEndsWrong : ChangeSpec := { name := "fnTrimSpaceStripsExactlyTheBlankEnds", fn := fun _ => fun
  | [d] => { results := [.lit (.bool false)], args := [d] }
  | _ => none }
def FnTrimSpaceStripsExactlyTheBlankEndsWrongFalsely : Prop := fnTrimSpaceStripsExactlyTheBlankEndsRow.holds Try.pinned (OpenSpec.ofChange fnTrimSpaceStripsExactlyTheBlankEndsWrong)

/-- 'zzlaws_internal_bench_b1.FnTrimSpaceIgnoresBlankPadding': WHATEVER THE INPUT: true; the input reads as it did. -/
def fnTrimSpaceIgnoresBlankPaddingSpec : ChangeSpec := { name := "fnTrimSpaceIgnoresBlankPadding", fn := fun _ => fun
  | [d1, d2, d3] => { results := [.lit (.bool true)], args := [d1, d2, d3] }
  | _ => none }
def fnTrimSpaceIgnoresBlankPaddingRow : OpenClaim := { program := "qxb6617070a", sum := "6ef1c9550195d710f90e745bb5761446d3c9867abdfc83ef15509a53651d3680", func := "example.com/inferwright/inferwright/zzlaws_internal_bench_b1.FnTrimSpaceIgnoresBlankPadding", spec := "fnTrimSpaceIgnoresBlankPadding", apart := false }
def FnTrimSpaceIgnoresBlankPaddingSaid : Prop := fnTrimSpaceIgnoresBlankPaddingRow.holds Try.pinned (OpenSpec.ofChange fnTrimSpaceIgnoresBlankPaddingSpec)

/-- ITS FALSE NEIGHBOUR: 'it returns false'. Refute it at one input. -/
def fnTrimSpaceIgnoresBlankPaddingWrong : ChangeSpec := { name := "fnTrimSpaceIgnoresBlankPadding", fn := fun _ => fun
  | [d1, d2, d3] => { results := [.lit (.bool false)], args := [d1, d2, d3] }
  | _ => none }
def FnTrimSpaceIgnoresBlankPaddingWrongFalsely : Prop := fnTrimSpaceIgnoresBlankPaddingRow.holds Try.pinned (OpenSpec.ofChange fnTrimSpaceIgnoresBlankPaddingWrong)

end Rows
end Go.Proofs.Qxb6617070a
