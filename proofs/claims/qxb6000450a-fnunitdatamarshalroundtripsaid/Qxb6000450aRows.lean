/-
  No cell of these rows narrows 'for every input' (looked for: loops, veiled, ifaces, maps, wideKeys, modest, calm, conditions, laid).
  DERIVED. THE GIVEN ROWS OF THIS SEAT. 5 by the template 'for every input the law returns true; each argument reads behind the call as it read before'; 0 by the template 'total and deterministic' (their statements: Qxb6000450aTotals.lean).
  GIVEN WITH THE SEED: the statements are not yours to turn. If you find one false, say at which input.
  Laid BY PROGRAM, IN A SANDBOX (cutbox-rows.mjs): the forced cells as the released guide's own fill.sh prints them over the translation 2575f1ef277792ac… (all of the seat's roots in one cut). By AI agents, Wed Nov 11 2026. No macro, syntax, notation, axiom, sorry.
-/
import Derived.Test.Qxb6000450aChecked
import GoSem.Claim
import GoSem.ClaimJoined
import GoSem.ClaimMapViews
import Derived.JoinedTies
import Derived.KernelRfl
namespace Go.Proofs.Qxb6000450a
/- THE CELL 'sum', in the pinned program and in every row, IS THE sha256 OF THE DUMP (.gsa) THAT Qxb6000450aProg.lean LOADS. Nothing in Lean hashes anything: it is a label: what it is worth is what the hold of that sum in a sandbox is worth. -/
noncomputable def Try.pinned : Pinned := { name := "qxb6000450a", sum := "2575f1ef277792acf84d218e30ece177cd0ffa4195edc357969d7974cd6faa87", checked := Try.checked }
namespace Rows
def none {H : Type} : Left H := { results := [], args := [] }

/-- 'zzlaws_sccp_b1.FnMarshalLaysOutHeadAndParts': WHATEVER THE INPUT: true; the input reads as it did. -/
def fnMarshalLaysOutHeadAndPartsSpec : ChangeSpec := { name := "fnMarshalLaysOutHeadAndParts", fn := fun _ => fun
  | [d1, d2, d3, d4, d5, d6] => { results := [.lit (.bool true)], args := [d1, d2, d3, d4, d5, d6] }
  | _ => none }
def fnMarshalLaysOutHeadAndPartsRow : OpenClaim := { program := "qxb6000450a", sum := "2575f1ef277792acf84d218e30ece177cd0ffa4195edc357969d7974cd6faa87", func := "example.com/sojourn/sojourn/zzlaws_sccp_b1.FnMarshalLaysOutHeadAndParts", spec := "fnMarshalLaysOutHeadAndParts", apart := false }
def FnMarshalLaysOutHeadAndPartsSaid : Prop := fnMarshalLaysOutHeadAndPartsRow.holds Try.pinned (OpenSpec.ofChange fnMarshalLaysOutHeadAndPartsSpec)

/-- ITS FALSE NEIGHBOUR: 'it returns false'. Refute it at one input. -/
def fnMarshalLaysOutHeadAndPartsWrong : ChangeSpec := { name := "fnMarshalLaysOutHeadAndParts", fn := fun _ => fun
  | [d1, d2, d3, d4, d5, d6] => { results := [.lit (.bool false)], args := [d1, d2, d3, d4, d5, d6] }
  | _ => none }
def FnMarshalLaysOutHeadAndPartsWrongFalsely : Prop := fnMarshalLaysOutHeadAndPartsRow.holds Try.pinned (OpenSpec.ofChange fnMarshalLaysOutHeadAndPartsWrong)

/-- 'zzlaws_sccp_b1.FnUnitdataMarshalRoundTrip': WHATEVER THE INPUT: true; the input reads as it did. -/
def fnUnitdataMarshalRoundTripSpec : ChangeSpec := { name := "fnUnitdataMarshalRoundTrip", fn := fun _ => fun
  | [d1, d2, d3, d4, d5, d6, d7, d8] => { results := [.lit (.bool true)], args := [d1, d2, d3, d4, d5, d6, d7, d8] }
  | _ => none }
def fnUnitdataMarshalRoundTripRow : OpenClaim := { program := "qxb6000450a", sum := "2575f1ef277792acf84d218e30ece177cd0ffa4195edc357969d7974cd6faa87", func := "example.com/sojourn/sojourn/zzlaws_sccp_b1.FnUnitdataMarshalRoundTrip", spec := "fnUnitdataMarshalRoundTrip", apart := false }
def FnUnitdataMarshalRoundTripSaid : Prop := fnUnitdataMarshalRoundTripRow.holds Try.pinned (OpenSpec.ofChange fnUnitdataMarshalRoundTripSpec)

/-- ITS FALSE NEIGHBOUR: 'it returns false'. Refute it at one input. -/
def fnUnitdataMarshalRoundTripWrong : ChangeSpec := { name := "fnUnitdataMarshalRoundTrip", fn := fun _ => fun
  | [d1, d2, d3, d4, d5, d6, d7, d8] => { results := [.lit (.bool false)], args := [d1, d2, d3, d4, d5, d6, d7, d8] }
  | _ => none }
def FnUnitdataMarshalRoundTripWrongFalsely : Prop := fnUnitdataMarshalRoundTripRow.holds Try.pinned (OpenSpec.ofChange fnUnitdataMarshalRoundTripWrong)

/-- 'zzlaws_sccp_b1.FnUDTIgnoresHopCounterAndOptional': WHATEVER THE INPUT: true; the input reads as it did. -/
def fnUDTIgnoresHopCounterAndOptionalSpec : ChangeSpec := { name := "fnUDTIgnoresHopCounterAndOptional", fn := fun _ => fun
  | [d1, d2, d3, d4, d5, d6, d7, d8, d9] => { results := [.lit (.bool true)], args := [d1, d2, d3, d4, d5, d6, d7, d8, d9] }
  | _ => none }
def fnUDTIgnoresHopCounterAndOptionalRow : OpenClaim := { program := "qxb6000450a", sum := "2575f1ef277792acf84d218e30ece177cd0ffa4195edc357969d7974cd6faa87", func := "example.com/sojourn/sojourn/zzlaws_sccp_b1.FnUDTIgnoresHopCounterAndOptional", spec := "fnUDTIgnoresHopCounterAndOptional", apart := false }
def FnUDTIgnoresHopCounterAndOptionalSaid : Prop := fnUDTIgnoresHopCounterAndOptionalRow.holds Try.pinned (OpenSpec.ofChange fnUDTIgnoresHopCounterAndOptionalSpec)

/-- ITS FALSE NEIGHBOUR: 'it returns false'. Refute it at one input. -/
def fnUDTIgnoresHopCounterAndOptionalWrong : ChangeSpec := { name := "fnUDTIgnoresHopCounterAndOptional", fn := fun _ => fun
  | [d1, d2, d3, d4, d5, d6, d7, d8, d9] => { results := [.lit (.bool false)], args := [d1, d2, d3, d4, d5, d6, d7, d8, d9] }
  | _ => none }
def FnUDTIgnoresHopCounterAndOptionalWrongFalsely : Prop := fnUDTIgnoresHopCounterAndOptionalRow.holds Try.pinned (OpenSpec.ofChange fnUDTIgnoresHopCounterAndOptionalWrong)

/-- 'zzlaws_sccp_b1.FnE164AddressDecodesToItsDigits': WHATEVER THE INPUT: true; the input reads as it did. -/
def fnE164AddressDecodesToItsDigitsSpec : ChangeSpec := { name := "fnE164AddressDecodesToItsDigits", fn := fun _ => fun
  | [d1, d2] => { results := [.lit (.bool true)], args := [d1, d2] }
  | _ => none }
def fnE164AddressDecodesToItsDigitsRow : OpenClaim := { program := "qxb6000450a", sum := "2575f1ef277792acf84d218e30ece177cd0ffa4195edc357969d7974cd6faa87", func := "example.com/sojourn/sojourn/zzlaws_sccp_b1.FnE164AddressDecodesToItsDigits", spec := "fnE164AddressDecodesToItsDigits", apart := false }
def FnE164AddressDecodesToItsDigitsSaid : Prop := fnE164AddressDecodesToItsDigitsRow.holds Try.pinned (OpenSpec.ofChange fnE164AddressDecodesToItsDigitsSpec)

/-- ITS FALSE NEIGHBOUR: 'it returns false'. Refute it at one input. -/
def fnE164AddressDecodesToItsDigitsWrong : ChangeSpec := { name := "fnE164AddressDecodesToItsDigits", fn := fun _ => fun
  | [d1, d2] => { results := [.lit (.bool false)], args := [d1, d2] }
  | _ => none }
def FnE164AddressDecodesToItsDigitsWrongFalsely : Prop := fnE164AddressDecodesToItsDigitsRow.holds Try.pinned (OpenSpec.ofChange fnE164AddressDecodesToItsDigitsWrong)

/-- 'zzlaws_sccp_b1.FnE164AddressConcatenatesEvenPrefix': WHATEVER THE INPUT: true; the input reads as it did. -/
def fnE164AddressConcatenatesEvenPrefixSpec : ChangeSpec := { name := "fnE164AddressConcatenatesEvenPrefix", fn := fun _ => fun
  | [d1, d2, d3] => { results := [.lit (.bool true)], args := [d1, d2, d3] }
  | _ => none }
def fnE164AddressConcatenatesEvenPrefixRow : OpenClaim := { program := "qxb6000450a", sum := "2575f1ef277792acf84d218e30ece177cd0ffa4195edc357969d7974cd6faa87", func := "example.com/sojourn/sojourn/zzlaws_sccp_b1.FnE164AddressConcatenatesEvenPrefix", spec := "fnE164AddressConcatenatesEvenPrefix", apart := false }
def FnE164AddressConcatenatesEvenPrefixSaid : Prop := fnE164AddressConcatenatesEvenPrefixRow.holds Try.pinned (OpenSpec.ofChange fnE164AddressConcatenatesEvenPrefixSpec)

/-- ITS FALSE NEIGHBOUR: 'it returns false'. Refute it at one input. -/
def fnE164AddressConcatenatesEvenPrefixWrong : ChangeSpec := { name := "fnE164AddressConcatenatesEvenPrefix", fn := fun _ => fun
  | [d1, d2, d3] => { results := [.lit (.bool false)], args := [d1, d2, d3] }
  | _ => none }
def FnE164AddressConcatenatesEvenPrefixWrongFalsely : Prop := fnE164AddressConcatenatesEvenPrefixRow.holds Try.pinned (OpenSpec.ofChange fnE164AddressConcatenatesEvenPrefixWrong)

end Rows
end Go.Proofs.Qxb6000450a
