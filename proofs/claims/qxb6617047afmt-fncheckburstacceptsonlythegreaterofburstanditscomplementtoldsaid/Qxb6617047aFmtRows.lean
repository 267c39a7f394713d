/-
  No cell of these rows narrows 'for every input' (looked for: loops, veiled, ifaces, maps, wideKeys, modest, calm, conditions, laid).
  DERIVED. THE GIVEN ROWS OF THIS SEAT. 3 by the template 'for every input the law returns true; each argument reads behind the call as it read before'; 0 by the template 'total and deterministic' (their statements: Qxb6617047aFmtTotals.lean).
  GIVEN WITH THE SEED: the statements are not yours to turn. If you find one false, say at which input.
  Laid BY PROGRAM, IN A SANDBOX (cutbox-rows.mjs): the forced cells as the released guide's own fill.sh prints them over the translation 8556e630c418f36a… (all of the seat's roots in one cut). By AI agents, Wed Nov 11 2026. No macro, syntax, notation, axiom, sorry.
-/
import Derived.Test.Qxb6617047aFmtChecked
import GoSem.Claim
import GoSem.ClaimJoined
import GoSem.ClaimMapViews
import Derived.JoinedTies
import Derived.KernelRfl
namespace Go.Proofs.Qxb6617047aFmt
/- THE CELL 'sum', in the pinned program and in every row, IS THE sha256 OF THE DUMP (.gsa) THAT Qxb6617047aFmtProg.lean LOADS. Nothing in Lean hashes anything: it is a label: what it is worth is what the hold of that sum in a sandbox is worth. -/
noncomputable def Tryf.pinned : Pinned := { name := "qxb6617047afmt", sum := "8556e630c418f36a4e00f5cec582d4080b7f52e4fc6106fece4b5fd5949114b4", checked := Tryf.checked }
namespace Rows
def none {H : Type} : Left H := { results := [], args := [] }

/-- 'zzlaws_root_e1.FnCheckRateAcceptsOnlyTheGreaterOfRateAndMinusRate': WHATEVER THE INPUT: true; the input reads as it did. -/
def fnCheckRateAcceptsOnlyTheGreaterOfRateAndMinusRateSpec : ChangeSpec := { name := "fnCheckRateAcceptsOnlyTheGreaterOfRateAndMinusRate", fn := fun _ => fun
  | [d] => { results := [.lit (.bool true)], args := [d] }
  | _ => none }
def fnCheckRateAcceptsOnlyTheGreaterOfRateAndMinusRateRow : OpenClaim := { program := "qxb6617047afmt", sum := "8556e630c418f36a4e00f5cec582d4080b7f52e4fc6106fece4b5fd5949114b4", func := "example.com/upper-bound/upper-bound/zzlaws_root_e1.FnCheckRateAcceptsOnlyTheGreaterOfRateAndMinusRate", spec := "fnCheckRateAcceptsOnlyTheGreaterOfRateAndMinusRate", stops := ["fmt.errorf"], inPlace := ["fmt.errorf"], apart := false }
/-- NO THEOREM (fmt's text is open here; it may be false): for the released tool's asking of the row's closed facts alone. THE STATEMENT IS 'FnCheckRateAcceptsOnlyTheGreaterOfRateAndMinusRateToldSaid' (Qxb6617047aFmtCards.lean). -/
def FnCheckRateAcceptsOnlyTheGreaterOfRateAndMinusRateFormAsk : Prop := fnCheckRateAcceptsOnlyTheGreaterOfRateAndMinusRateRow.holds Tryf.pinned (OpenSpec.ofChange fnCheckRateAcceptsOnlyTheGreaterOfRateAndMinusRateSpec)

/-- ITS FALSE NEIGHBOUR: 'it returns false'. Refute it at one input. -/
def fnCheckRateAcceptsOnlyTheGreaterOfRateAndMinusRateWrong : ChangeSpec := { name := "fnCheckRateAcceptsOnlyTheGreaterOfRateAndMinusRate", fn := fun _ => fun
  | [d] => { results := [.lit (.bool false)], args := [d] }
  | _ => none }
def FnCheckRateAcceptsOnlyTheGreaterOfRateAndMinusRateWrongFormAsk : Prop := fnCheckRateAcceptsOnlyTheGreaterOfRateAndMinusRateRow.holds Tryf.pinned (OpenSpec.ofChange fnCheckRateAcceptsOnlyTheGreaterOfRateAndMinusRateWrong)

/-- 'zzlaws_root_e1.FnCheckBurstAcceptsOnlyTheGreaterOfBurstAndItsComplement': WHATEVER THE INPUT: true; the input reads as it did. -/
def fnCheckBurstAcceptsOnlyTheGreaterOfBurstAndItsComplementSpec : ChangeSpec := { name := "fnCheckBurstAcceptsOnlyTheGreaterOfBurstAndItsComplement", fn := fun _ => fun
  | [d] => { results := [.lit (.bool true)], args := [d] }
  | _ => none }
def fnCheckBurstAcceptsOnlyTheGreaterOfBurstAndItsComplementRow : OpenClaim := { program := "qxb6617047afmt", sum := "8556e630c418f36a4e00f5cec582d4080b7f52e4fc6106fece4b5fd5949114b4", func := "example.com/upper-bound/upper-bound/zzlaws_root_e1.FnCheckBurstAcceptsOnlyTheGreaterOfBurstAndItsComplement", spec := "fnCheckBurstAcceptsOnlyTheGreaterOfBurstAndItsComplement", stops := ["fmt.errorf"], inPlace := ["fmt.errorf"], apart := false }
/-- NO THEOREM (fmt's text is open here; it may be false): for the released tool's asking of the row's closed facts alone. THE STATEMENT IS 'FnCheckBurstAcceptsOnlyTheGreaterOfBurstAndItsComplementToldSaid' (Qxb6617047aFmtCards.lean). -/
def FnCheckBurstAcceptsOnlyTheGreaterOfBurstAndItsComplementFormAsk : Prop := fnCheckBurstAcceptsOnlyTheGreaterOfBurstAndItsComplementRow.holds Tryf.pinned (OpenSpec.ofChange fnCheckBurstAcceptsOnlyTheGreaterOfBurstAndItsComplementSpec)

/-- ITS FALSE NEIGHBOUR: 'it returns false'. Refute it at one input. -/
def fnCheckBurstAcceptsOnlyTheGreaterOfBurstAndItsComplementWrong : ChangeSpec := { name := "fnCheckBurstAcceptsOnlyTheGreaterOfBurstAndItsComplement", fn := fun _ => fun
  | [d] => { results := [.lit (.bool false)], args := [d] }
  | _ => none }
def FnCheckBurstAcceptsOnlyTheGreaterOfBurstAndItsComplementWrongFormAsk : Prop := fnCheckBurstAcceptsOnlyTheGreaterOfBurstAndItsComplementRow.holds Tryf.pinned (OpenSpec.ofChange fnCheckBurstAcceptsOnlyTheGreaterOfBurstAndItsComplementWrong)

/-- 'zzlaws_root_e1.FnValidateAgreesWithBothChecksAndRefusesMirrors': WHATEVER THE INPUT: true; the input reads as it did. -/
def fnValidateAgreesWithBothChecksAndRefusesMirrorsSpec : ChangeSpec := { name := "fnValidateAgreesWithBothChecksAndRefusesMirrors", fn := fun _ => fun
  | [d1, d2] => { results := [.lit (.bool true)], args := [d1, d2] }
  | _ => none }
def fnValidateAgreesWithBothChecksAndRefusesMirrorsRow : OpenClaim := { program := "qxb6617047afmt", sum := "8556e630c418f36a4e00f5cec582d4080b7f52e4fc6106fece4b5fd5949114b4", func := "example.com/upper-bound/upper-bound/zzlaws_root_e1.FnValidateAgreesWithBothChecksAndRefusesMirrors", spec := "fnValidateAgreesWithBothChecksAndRefusesMirrors", stops := ["fmt.errorf"], inPlace := ["fmt.errorf"], apart := false }
/-- NO THEOREM (fmt's text is open here; it may be false): for the released tool's asking of the row's closed facts alone. THE STATEMENT IS 'FnValidateAgreesWithBothChecksAndRefusesMirrorsToldSaid' (Qxb6617047aFmtCards.lean). -/
def FnValidateAgreesWithBothChecksAndRefusesMirrorsFormAsk : Prop := fnValidateAgreesWithBothChecksAndRefusesMirrorsRow.holds Tryf.pinned (OpenSpec.ofChange fnValidateAgreesWithBothChecksAndRefusesMirrorsSpec)

/-- ITS FALSE NEIGHBOUR: 'it returns false'. Refute it at one input. -/
def fnValidateAgreesWithBothChecksAndRefusesMirrorsWrong : ChangeSpec := { name := "fnValidateAgreesWithBothChecksAndRefusesMirrors", fn := fun _ => fun
  | [d1, d2] => { results := [.lit (.bool false)], args := [d1, d2] }
  | _ => none }
def FnValidateAgreesWithBothChecksAndRefusesMirrorsWrongFormAsk : Prop := fnValidateAgreesWithBothChecksAndRefusesMirrorsRow.holds Tryf.pinned (OpenSpec.ofChange fnValidateAgreesWithBothChecksAndRefusesMirrorsWrong)

end Rows
end Go.Proofs.Qxb6617047aFmt
