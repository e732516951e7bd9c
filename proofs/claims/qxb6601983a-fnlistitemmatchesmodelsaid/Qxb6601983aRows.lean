/-
  No cell of these rows narrows 'for every input' (looked for: loops, veiled, ifaces, maps, wideKeys, modest, calm, conditions, laid).
  DERIVED. THE GIVEN ROWS OF THIS SEAT. 7 by the template 'for every input the law returns true; each argument reads behind the call as it read before'; 0 by the template 'total and deterministic' (their statements: Qxb6601983aTotals.lean).
  GIVEN WITH THE SEED: the statements are not yours to turn. If you find one false, say at which input.
  Laid BY PROGRAM, IN A SANDBOX (cutbox-rows.mjs): the forced cells as the released guide's own fill.sh prints them over the translation 8aee3de69203434a… (all of the seat's roots in one cut). By AI agents, Wed Nov 11 2026. No macro, syntax, notation, axiom, sorry.
-/
import Derived.Test.Qxb6601983aChecked
import GoSem.Claim
import GoSem.ClaimJoined
import GoSem.ClaimMapViews
import Derived.JoinedTies
import Derived.KernelRfl
namespace Go.Proofs.Qxb6601983a
/- THE CELL 'sum', in the pinned program and in every row, IS THE sha256 OF THE DUMP (.gsa) THAT Qxb6601983aProg.lean LOADS. Nothing in Lean hashes anything: it is a label: what it is worth is what the hold of that sum in a sandbox is worth. -/
noncomputable def Try.pinned : Pinned := { name := "qxb6601983a", sum := "8aee3de69203434a1063365d6c37882583d8014000b06e36a7f56e5c6110acab", checked := Try.checked }
namespace Rows
def none {H : Type} : Left H := { results := [], args := [] }

/-- 'zzlaws_artifact_b1.FnTitleMatchesModel': WHATEVER THE INPUT: true; the input reads as it did. -/
def fnTitleMatchesModelSpec : ChangeSpec := { name := "fnTitleMatchesModel", fn := fun _ => fun
  | [d1, d2] => { results := [.lit (.bool true)], args := [d1, d2] }
  | _ => none }
def fnTitleMatchesModelRow : OpenClaim := { program := "qxb6601983a", sum := "8aee3de69203434a1063365d6c37882583d8014000b06e36a7f56e5c6110acab", func := "example.com/gatefold/gatefold/zzlaws_artifact_b1.FnTitleMatchesModel", spec := "fnTitleMatchesModel", apart := false }
def FnTitleMatchesModelSaid : Prop := fnTitleMatchesModelRow.holds Try.pinned (OpenSpec.ofChange fnTitleMatchesModelSpec)

/-- ITS FALSE NEIGHBOUR: 'it returns false'. Refute it at one input. -/
def fnTitleMatchesModelWrong : ChangeSpec := { name := "fnTitleMatchesModel", fn := fun _ => fun
  | [d1, d2] => { results := [.lit (.bool false)], args := [d1, d2] }
  | _ => none }
def FnTitleMatchesModelWrongFalsely : Prop := fnTitleMatchesModelRow.holds Try.pinned (OpenSpec.ofChange fnTitleMatchesModelWrong)

/-- 'zzlaws_artifact_b1.FnTitleIsLocal': WHATEVER THE INPUT: true; the input reads as it did. -/
def fnTitleIsLocalSpec : ChangeSpec := { name := "fnTitleIsLocal", fn := fun _ => fun
  | [d1, d2, d3] => { results := [.lit (.bool true)], args := [d1, d2, d3] }
  | _ => none }
def fnTitleIsLocalRow : OpenClaim := { program := "qxb6601983a", sum := "8aee3de69203434a1063365d6c37882583d8014000b06e36a7f56e5c6110acab", func := "example.com/gatefold/gatefold/zzlaws_artifact_b1.FnTitleIsLocal", spec := "fnTitleIsLocal", apart := false }
def FnTitleIsLocalSaid : Prop := fnTitleIsLocalRow.holds Try.pinned (OpenSpec.ofChange fnTitleIsLocalSpec)

/-- ITS FALSE NEIGHBOUR: 'it returns false'. Refute it at one input. -/
def fnTitleIsLocalWrong : ChangeSpec := { name := "fnTitleIsLocal", fn := fun _ => fun
  | [d1, d2, d3] => { results := [.lit (.bool false)], args := [d1, d2, d3] }
  | _ => none }
def FnTitleIsLocalWrongFalsely : Prop := fnTitleIsLocalRow.holds Try.pinned (OpenSpec.ofChange fnTitleIsLocalWrong)

/-- 'zzlaws_artifact_b1.FnDestinationMatchesModel': WHATEVER THE INPUT: true; the input reads as it did. -/
def fnDestinationMatchesModelSpec : ChangeSpec := { name := "fnDestinationMatchesModel", fn := fun _ => fun
  | [d1, d2] => { results := [.lit (.bool true)], args := [d1, d2] }
  | _ => none }
def fnDestinationMatchesModelRow : OpenClaim := { program := "qxb6601983a", sum := "8aee3de69203434a1063365d6c37882583d8014000b06e36a7f56e5c6110acab", func := "example.com/gatefold/gatefold/zzlaws_artifact_b1.FnDestinationMatchesModel", spec := "fnDestinationMatchesModel", apart := false }
def FnDestinationMatchesModelSaid : Prop := fnDestinationMatchesModelRow.holds Try.pinned (OpenSpec.ofChange fnDestinationMatchesModelSpec)

/-- ITS FALSE NEIGHBOUR: 'it returns false'. Refute it at one input. -/
def fnDestinationMatchesModelWrong : ChangeSpec := { name := "fnDestinationMatchesModel", fn := fun _ => fun
  | [d1, d2] => { results := [.lit (.bool false)], args := [d1, d2] }
  | _ => none }
def FnDestinationMatchesModelWrongFalsely : Prop := fnDestinationMatchesModelRow.holds Try.pinned (OpenSpec.ofChange fnDestinationMatchesModelWrong)

/-- 'zzlaws_artifact_b1.FnDestinationIsLocal': WHATEVER THE INPUT: true; the input reads as it did. -/
def fnDestinationIsLocalSpec : ChangeSpec := { name := "fnDestinationIsLocal", fn := fun _ => fun
  | [d1, d2, d3] => { results := [.lit (.bool true)], args := [d1, d2, d3] }
  | _ => none }
def fnDestinationIsLocalRow : OpenClaim := { program := "qxb6601983a", sum := "8aee3de69203434a1063365d6c37882583d8014000b06e36a7f56e5c6110acab", func := "example.com/gatefold/gatefold/zzlaws_artifact_b1.FnDestinationIsLocal", spec := "fnDestinationIsLocal", apart := false }
def FnDestinationIsLocalSaid : Prop := fnDestinationIsLocalRow.holds Try.pinned (OpenSpec.ofChange fnDestinationIsLocalSpec)

/-- ITS FALSE NEIGHBOUR: 'it returns false'. Refute it at one input. -/
def fnDestinationIsLocalWrong : ChangeSpec := { name := "fnDestinationIsLocal", fn := fun _ => fun
  | [d1, d2, d3] => { results := [.lit (.bool false)], args := [d1, d2, d3] }
  | _ => none }
def FnDestinationIsLocalWrongFalsely : Prop := fnDestinationIsLocalRow.holds Try.pinned (OpenSpec.ofChange fnDestinationIsLocalWrong)

/-- 'zzlaws_artifact_b1.FnListItemMatchesModel': WHATEVER THE INPUT: true; the input reads as it did. -/
def fnListItemMatchesModelSpec : ChangeSpec := { name := "fnListItemMatchesModel", fn := fun _ => fun
  | [d1, d2, d3, d4] => { results := [.lit (.bool true)], args := [d1, d2, d3, d4] }
  | _ => none }
def fnListItemMatchesModelRow : OpenClaim := { program := "qxb6601983a", sum := "8aee3de69203434a1063365d6c37882583d8014000b06e36a7f56e5c6110acab", func := "example.com/gatefold/gatefold/zzlaws_artifact_b1.FnListItemMatchesModel", spec := "fnListItemMatchesModel", apart := false }
def FnListItemMatchesModelSaid : Prop := fnListItemMatchesModelRow.holds Try.pinned (OpenSpec.ofChange fnListItemMatchesModelSpec)

/-- ITS FALSE NEIGHBOUR: 'it returns false'. Refute it at one input. -/
def fnListItemMatchesModelWrong : ChangeSpec := { name := "fnListItemMatchesModel", fn := fun _ => fun
  | [d1, d2, d3, d4] => { results := [.lit (.bool false)], args := [d1, d2, d3, d4] }
  | _ => none }
def FnListItemMatchesModelWrongFalsely : Prop := fnListItemMatchesModelRow.holds Try.pinned (OpenSpec.ofChange fnListItemMatchesModelWrong)

/-- 'zzlaws_artifact_b1.FnListItemInterruptingOnlyRefuses': WHATEVER THE INPUT: true; the input reads as it did. -/
def fnListItemInterruptingOnlyRefusesSpec : ChangeSpec := { name := "fnListItemInterruptingOnlyRefuses", fn := fun _ => fun
  | [d1, d2, d3] => { results := [.lit (.bool true)], args := [d1, d2, d3] }
  | _ => none }
def fnListItemInterruptingOnlyRefusesRow : OpenClaim := { program := "qxb6601983a", sum := "8aee3de69203434a1063365d6c37882583d8014000b06e36a7f56e5c6110acab", func := "example.com/gatefold/gatefold/zzlaws_artifact_b1.FnListItemInterruptingOnlyRefuses", spec := "fnListItemInterruptingOnlyRefuses", apart := false }
def FnListItemInterruptingOnlyRefusesSaid : Prop := fnListItemInterruptingOnlyRefusesRow.holds Try.pinned (OpenSpec.ofChange fnListItemInterruptingOnlyRefusesSpec)

/-- ITS FALSE NEIGHBOUR: 'it returns false'. Refute it at one input. -/
def fnListItemInterruptingOnlyRefusesWrong : ChangeSpec := { name := "fnListItemInterruptingOnlyRefuses", fn := fun _ => fun
  | [d1, d2, d3] => { results := [.lit (.bool false)], args := [d1, d2, d3] }
  | _ => none }
def FnListItemInterruptingOnlyRefusesWrongFalsely : Prop := fnListItemInterruptingOnlyRefusesRow.holds Try.pinned (OpenSpec.ofChange fnListItemInterruptingOnlyRefusesWrong)

/-- 'zzlaws_artifact_b1.FnListItemTabStopShift': WHATEVER THE INPUT: true; the input reads as it did. -/
def fnListItemTabStopShiftSpec : ChangeSpec := { name := "fnListItemTabStopShift", fn := fun _ => fun
  | [d1, d2, d3, d4, d5] => { results := [.lit (.bool true)], args := [d1, d2, d3, d4, d5] }
  | _ => none }
def fnListItemTabStopShiftRow : OpenClaim := { program := "qxb6601983a", sum := "8aee3de69203434a1063365d6c37882583d8014000b06e36a7f56e5c6110acab", func := "example.com/gatefold/gatefold/zzlaws_artifact_b1.FnListItemTabStopShift", spec := "fnListItemTabStopShift", apart := false }
def FnListItemTabStopShiftSaid : Prop := fnListItemTabStopShiftRow.holds Try.pinned (OpenSpec.ofChange fnListItemTabStopShiftSpec)

/-- ITS FALSE NEIGHBOUR: 'it returns false'. Refute it at one input. -/
def fnListItemTabStopShiftWrong : ChangeSpec := { name := "fnListItemTabStopShift", fn := fun _ => fun
  | [d1, d2, d3, d4, d5] => { results := [.lit (.bool false)], args := [d1, d2, d3, d4, d5] }
  | _ => none }
def FnListItemTabStopShiftWrongFalsely : Prop := fnListItemTabStopShiftRow.holds Try.pinned (OpenSpec.ofChange fnListItemTabStopShiftWrong)

end Rows
end Go.Proofs.Qxb6601983a
