/-
  DERIVED. GIVEN WITH THE SEED: THE CARDS: each row of Qxb6617047aFmtRows.lean that lists a variable, with what it lists TIED to the program's text (the seventh form; the later family's looks); each row that meets fmt, with fmt's text TOLD by the authors' own Lean function (tested against real Go, not proved from fmt's source: count such statements apart). THE CARD IS WHAT COUNTS. Prove the row's statement (the work); the ties are given (Qxb6617047aFmtTie.lean); close each card by the builder's one call (the guide's Derived/Test/ToyasCard.lean, 'card_holds'). Laid BY PROGRAM, IN A SANDBOX (cutbox-door.mjs). By AI agents, Wed Nov 11 2026. No macro, syntax, notation, axiom, sorry.
-/
import Derived.Test.Qxb6617047aFmtRows
import GoSem.ClaimSeven
namespace Go.Proofs.Qxb6617047aFmt
namespace Rows

/-- THE TOLD CARD OF 'zzlaws_root_e1.FnCheckRateAcceptsOnlyTheGreaterOfRateAndMinusRate'. -/
def fnCheckRateAcceptsOnlyTheGreaterOfRateAndMinusRateCard : Claim7 := { stood := { row := fnCheckRateAcceptsOnlyTheGreaterOfRateAndMinusRateRow, standIns := [], harness := (true, "de0dd3399f5f2938abe20bf4a31d3f65e556f4b407c708c4f33f4b66996b092b"), looks := false }, told := true, goes := false }
def FnCheckRateAcceptsOnlyTheGreaterOfRateAndMinusRateToldSaid : Prop := Claim7.holds Tryf.pinned (.plain (OpenSpec.ofChange fnCheckRateAcceptsOnlyTheGreaterOfRateAndMinusRateSpec)) fnCheckRateAcceptsOnlyTheGreaterOfRateAndMinusRateCard
/-- ITS FALSE NEIGHBOUR. Refute it at one input. -/
def FnCheckRateAcceptsOnlyTheGreaterOfRateAndMinusRateToldWrongFalsely : Prop := Claim7.holds Tryf.pinned (.plain (OpenSpec.ofChange fnCheckRateAcceptsOnlyTheGreaterOfRateAndMinusRateWrong)) fnCheckRateAcceptsOnlyTheGreaterOfRateAndMinusRateCard

/-- THE TOLD CARD OF 'zzlaws_root_e1.FnCheckBurstAcceptsOnlyTheGreaterOfBurstAndItsComplement'. -/
def fnCheckBurstAcceptsOnlyTheGreaterOfBurstAndItsComplementCard : Claim7 := { stood := { row := fnCheckBurstAcceptsOnlyTheGreaterOfBurstAndItsComplementRow, standIns := [], harness := (true, "de0dd3399f5f2938abe20bf4a31d3f65e556f4b407c708c4f33f4b66996b092b"), looks := false }, told := true, goes := false }
def FnCheckBurstAcceptsOnlyTheGreaterOfBurstAndItsComplementToldSaid : Prop := Claim7.holds Tryf.pinned (.plain (OpenSpec.ofChange fnCheckBurstAcceptsOnlyTheGreaterOfBurstAndItsComplementSpec)) fnCheckBurstAcceptsOnlyTheGreaterOfBurstAndItsComplementCard
/-- ITS FALSE NEIGHBOUR. Refute it at one input. -/
def FnCheckBurstAcceptsOnlyTheGreaterOfBurstAndItsComplementToldWrongFalsely : Prop := Claim7.holds Tryf.pinned (.plain (OpenSpec.ofChange fnCheckBurstAcceptsOnlyTheGreaterOfBurstAndItsComplementWrong)) fnCheckBurstAcceptsOnlyTheGreaterOfBurstAndItsComplementCard

/-- THE TOLD CARD OF 'zzlaws_root_e1.FnValidateAgreesWithBothChecksAndRefusesMirrors'. -/
def fnValidateAgreesWithBothChecksAndRefusesMirrorsCard : Claim7 := { stood := { row := fnValidateAgreesWithBothChecksAndRefusesMirrorsRow, standIns := [], harness := (true, "de0dd3399f5f2938abe20bf4a31d3f65e556f4b407c708c4f33f4b66996b092b"), looks := false }, told := true, goes := false }
def FnValidateAgreesWithBothChecksAndRefusesMirrorsToldSaid : Prop := Claim7.holds Tryf.pinned (.plain (OpenSpec.ofChange fnValidateAgreesWithBothChecksAndRefusesMirrorsSpec)) fnValidateAgreesWithBothChecksAndRefusesMirrorsCard
/-- ITS FALSE NEIGHBOUR. Refute it at one input. -/
def FnValidateAgreesWithBothChecksAndRefusesMirrorsToldWrongFalsely : Prop := Claim7.holds Tryf.pinned (.plain (OpenSpec.ofChange fnValidateAgreesWithBothChecksAndRefusesMirrorsWrong)) fnValidateAgreesWithBothChecksAndRefusesMirrorsCard
end Rows
end Go.Proofs.Qxb6617047aFmt
