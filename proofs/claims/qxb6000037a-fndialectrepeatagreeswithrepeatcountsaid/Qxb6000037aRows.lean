/-
  No cell of these rows narrows 'for every input' (looked for: loops, veiled, ifaces, maps, wideKeys, modest, calm, conditions, laid).
  DERIVED. THE GIVEN ROWS OF THIS SEAT. 5 by the template 'for every input the law returns true; each argument reads behind the call as it read before'; 0 by the template 'total and deterministic' (their statements: Qxb6000037aTotals.lean).
  GIVEN WITH THE SEED: the statements are not yours to turn. If you find one false, say at which input.
  Laid BY PROGRAM, IN A SANDBOX (cutbox-rows.mjs): the forced cells as the released guide's own fill.sh prints them over the translation a42c8a42d9db252e… (all of the seat's roots in one cut). By AI agents, Wed Nov 11 2026. No macro, syntax, notation, axiom, sorry.
-/
import Derived.Test.Qxb6000037aChecked
import GoSem.Claim
import GoSem.ClaimJoined
import GoSem.ClaimMapViews
import Derived.JoinedTies
import Derived.KernelRfl
namespace Go.Proofs.Qxb6000037a
/- THE CELL 'sum', in the pinned program and in every row, IS THE sha256 OF THE DUMP (.gsa) THAT Qxb6000037aProg.lean LOADS. Nothing in Lean hashes anything: it is a label: what it is worth is what the hold of that sum in a sandbox is worth. -/
noncomputable def Try.pinned : Pinned := { name := "qxb6000037a", sum := "a42c8a42d9db252ea67b3a497098fa41882e4450f3e55a4b449646d470edc898", checked := Try.checked }
namespace Rows
def none {H : Type} : Left H := { results := [], args := [] }

/-- 'zzlaws_root_b1.FnRepeatCountMatchesModel': WHATEVER THE INPUT: true; the input reads as it did. -/
def fnRepeatCountMatchesModelSpec : ChangeSpec := { name := "fnRepeatCountMatchesModel", fn := fun _ => fun
  | [d] => { results := [.lit (.bool true)], args := [d] }
  | _ => none }
def fnRepeatCountMatchesModelRow : OpenClaim := { program := "qxb6000037a", sum := "a42c8a42d9db252ea67b3a497098fa41882e4450f3e55a4b449646d470edc898", func := "example.com/bowerbird/bowerbird/zzlaws_root_b1.FnRepeatCountMatchesModel", spec := "fnRepeatCountMatchesModel", unfollowed := true, recurses := true, apart := false }
def FnRepeatCountMatchesModelSaid : Prop := fnRepeatCountMatchesModelRow.holds Try.pinned (OpenSpec.ofChange fnRepeatCountMatchesModelSpec)

/-- ITS FALSE NEIGHBOUR: 'it returns false'. Refute it at one input. -/
def fnRepeatCountMatchesModelWrong : ChangeSpec := { name := "fnRepeatCountMatchesModel", fn := fun _ => fun
  | [d] => { results := [.lit (.bool false)], args := [d] }
  | _ => none }
def FnRepeatCountMatchesModelWrongFalsely : Prop := fnRepeatCountMatchesModelRow.holds Try.pinned (OpenSpec.ofChange fnRepeatCountMatchesModelWrong)

/-- 'zzlaws_root_b1.FnRepeatCountIgnoresWhatFollows': WHATEVER THE INPUT: true; the input reads as it did. -/
def fnRepeatCountIgnoresWhatFollowsSpec : ChangeSpec := { name := "fnRepeatCountIgnoresWhatFollows", fn := fun _ => fun
  | [d1, d2] => { results := [.lit (.bool true)], args := [d1, d2] }
  | _ => none }
def fnRepeatCountIgnoresWhatFollowsRow : OpenClaim := { program := "qxb6000037a", sum := "a42c8a42d9db252ea67b3a497098fa41882e4450f3e55a4b449646d470edc898", func := "example.com/bowerbird/bowerbird/zzlaws_root_b1.FnRepeatCountIgnoresWhatFollows", spec := "fnRepeatCountIgnoresWhatFollows", unfollowed := true, recurses := true, apart := false }
def FnRepeatCountIgnoresWhatFollowsSaid : Prop := fnRepeatCountIgnoresWhatFollowsRow.holds Try.pinned (OpenSpec.ofChange fnRepeatCountIgnoresWhatFollowsSpec)

/-- ITS FALSE NEIGHBOUR: 'it returns false'. Refute it at one input. -/
def fnRepeatCountIgnoresWhatFollowsWrong : ChangeSpec := { name := "fnRepeatCountIgnoresWhatFollows", fn := fun _ => fun
  | [d1, d2] => { results := [.lit (.bool false)], args := [d1, d2] }
  | _ => none }
def FnRepeatCountIgnoresWhatFollowsWrongFalsely : Prop := fnRepeatCountIgnoresWhatFollowsRow.holds Try.pinned (OpenSpec.ofChange fnRepeatCountIgnoresWhatFollowsWrong)

/-- 'zzlaws_root_b1.FnDialectRepeatAgreesWithRepeatCount': WHATEVER THE INPUT: true; the input reads as it did. -/
def fnDialectRepeatAgreesWithRepeatCountSpec : ChangeSpec := { name := "fnDialectRepeatAgreesWithRepeatCount", fn := fun _ => fun
  | [d1, d2] => { results := [.lit (.bool true)], args := [d1, d2] }
  | _ => none }
def fnDialectRepeatAgreesWithRepeatCountRow : OpenClaim := { program := "qxb6000037a", sum := "a42c8a42d9db252ea67b3a497098fa41882e4450f3e55a4b449646d470edc898", func := "example.com/bowerbird/bowerbird/zzlaws_root_b1.FnDialectRepeatAgreesWithRepeatCount", spec := "fnDialectRepeatAgreesWithRepeatCount", unfollowed := true, recurses := true, apart := false }
def FnDialectRepeatAgreesWithRepeatCountSaid : Prop := fnDialectRepeatAgreesWithRepeatCountRow.holds Try.pinned (OpenSpec.ofChange fnDialectRepeatAgreesWithRepeatCountSpec)

/-- ITS FALSE NEIGHBOUR: 'it returns false'. Refute it at one input. -/
def fnDialectRepeatAgreesWithRepeatCountWrong : ChangeSpec := { name := "fnDialectRepeatAgreesWithRepeatCount", fn := fun _ => fun
  | [d1, d2] => { results := [.lit (.bool false)], args := [d1, d2] }
  | _ => none }
def FnDialectRepeatAgreesWithRepeatCountWrongFalsely : Prop := fnDialectRepeatAgreesWithRepeatCountRow.holds Try.pinned (OpenSpec.ofChange fnDialectRepeatAgreesWithRepeatCountWrong)

/-- 'zzlaws_root_b1.FnDialectRepeatShiftInvariant': WHATEVER THE INPUT: true; the input reads as it did. -/
def fnDialectRepeatShiftInvariantSpec : ChangeSpec := { name := "fnDialectRepeatShiftInvariant", fn := fun _ => fun
  | [d1, d2, d3] => { results := [.lit (.bool true)], args := [d1, d2, d3] }
  | _ => none }
def fnDialectRepeatShiftInvariantRow : OpenClaim := { program := "qxb6000037a", sum := "a42c8a42d9db252ea67b3a497098fa41882e4450f3e55a4b449646d470edc898", func := "example.com/bowerbird/bowerbird/zzlaws_root_b1.FnDialectRepeatShiftInvariant", spec := "fnDialectRepeatShiftInvariant", unfollowed := true, recurses := true, apart := false }
def FnDialectRepeatShiftInvariantSaid : Prop := fnDialectRepeatShiftInvariantRow.holds Try.pinned (OpenSpec.ofChange fnDialectRepeatShiftInvariantSpec)

/-- ITS FALSE NEIGHBOUR: 'it returns false'. Refute it at one input. -/
def fnDialectRepeatShiftInvariantWrong : ChangeSpec := { name := "fnDialectRepeatShiftInvariant", fn := fun _ => fun
  | [d1, d2, d3] => { results := [.lit (.bool false)], args := [d1, d2, d3] }
  | _ => none }
def FnDialectRepeatShiftInvariantWrongFalsely : Prop := fnDialectRepeatShiftInvariantRow.holds Try.pinned (OpenSpec.ofChange fnDialectRepeatShiftInvariantWrong)

/-- 'zzlaws_root_b1.FnDialectRepeatAdvancesOrRefusesABrace': WHATEVER THE INPUT: true; the input reads as it did. -/
def fnDialectRepeatAdvancesOrRefusesABraceSpec : ChangeSpec := { name := "fnDialectRepeatAdvancesOrRefusesABrace", fn := fun _ => fun
  | [d1, d2] => { results := [.lit (.bool true)], args := [d1, d2] }
  | _ => none }
def fnDialectRepeatAdvancesOrRefusesABraceRow : OpenClaim := { program := "qxb6000037a", sum := "a42c8a42d9db252ea67b3a497098fa41882e4450f3e55a4b449646d470edc898", func := "example.com/bowerbird/bowerbird/zzlaws_root_b1.FnDialectRepeatAdvancesOrRefusesABrace", spec := "fnDialectRepeatAdvancesOrRefusesABrace", unfollowed := true, recurses := true, apart := false }
def FnDialectRepeatAdvancesOrRefusesABraceSaid : Prop := fnDialectRepeatAdvancesOrRefusesABraceRow.holds Try.pinned (OpenSpec.ofChange fnDialectRepeatAdvancesOrRefusesABraceSpec)

/-- ITS FALSE NEIGHBOUR: 'it returns false'. Refute it at one input. -/
def fnDialectRepeatAdvancesOrRefusesABraceWrong : ChangeSpec := { name := "fnDialectRepeatAdvancesOrRefusesABrace", fn := fun _ => fun
  | [d1, d2] => { results := [.lit (.bool false)], args := [d1, d2] }
  | _ => none }
def FnDialectRepeatAdvancesOrRefusesABraceWrongFalsely : Prop := fnDialectRepeatAdvancesOrRefusesABraceRow.holds Try.pinned (OpenSpec.ofChange fnDialectRepeatAdvancesOrRefusesABraceWrong)

end Rows
end Go.Proofs.Qxb6000037a
