/-
  No cell of these rows narrows 'for every input' (looked for: loops, veiled, ifaces, maps, wideKeys, modest, calm, conditions, laid).
  DERIVED. THE GIVEN ROWS OF THIS SEAT. 8 by the template 'for every input the law returns true; each argument reads behind the call as it read before'; 0 by the template 'total and deterministic' (their statements: Qxb6602738aTotals.lean).
  GIVEN WITH THE SEED: the statements are not yours to turn. If you find one false, say at which input.
  Laid BY PROGRAM, IN A SANDBOX (cutbox-rows.mjs): the forced cells as the released guide's own fill.sh prints them over the translation 829d5a46d023494e… (all of the seat's roots in one cut). By AI agents, Wed Nov 11 2026. No macro, syntax, notation, axiom, sorry.
-/
import Derived.Test.Qxb6602738aChecked
import GoSem.Claim
import GoSem.ClaimJoined
import GoSem.ClaimMapViews
import Derived.JoinedTies
import Derived.KernelRfl
namespace Go.Proofs.Qxb6602738a
/- THE CELL 'sum', in the pinned program and in every row, IS THE sha256 OF THE DUMP (.gsa) THAT Qxb6602738aProg.lean LOADS. Nothing in Lean hashes anything: it is a label: what it is worth is what the hold of that sum in a sandbox is worth. -/
noncomputable def Try.pinned : Pinned := { name := "qxb6602738a", sum := "829d5a46d023494e78fd6bdfe2187b9296f3534f7d14211e8a1a8807e249f19e", checked := Try.checked }
namespace Rows
def none {H : Type} : Left H := { results := [], args := [] }

/-- 'zzlaws_internal_sql_b1.FnProjectPicksColumns': WHATEVER THE INPUT: true; the input reads as it did. -/
def fnProjectPicksColumnsSpec : ChangeSpec := { name := "fnProjectPicksColumns", fn := fun _ => fun
  | [d1, d2, d3] => { results := [.lit (.bool true)], args := [d1, d2, d3] }
  | _ => none }
def fnProjectPicksColumnsRow : OpenClaim := { program := "qxb6602738a", sum := "829d5a46d023494e78fd6bdfe2187b9296f3534f7d14211e8a1a8807e249f19e", func := "example.com/redoubt/redoubt/zzlaws_internal_sql_b1.FnProjectPicksColumns", spec := "fnProjectPicksColumns", apart := false }
def FnProjectPicksColumnsSaid : Prop := fnProjectPicksColumnsRow.holds Try.pinned (OpenSpec.ofChange fnProjectPicksColumnsSpec)

/-- ITS FALSE NEIGHBOUR: 'it returns false'. Refute it at one input. -/
def fnProjectPicksColumnsWrong : ChangeSpec := { name := "fnProjectPicksColumns", fn := fun _ => fun
  | [d1, d2, d3] => { results := [.lit (.bool false)], args := [d1, d2, d3] }
  | _ => none }
def FnProjectPicksColumnsWrongFalsely : Prop := fnProjectPicksColumnsRow.holds Try.pinned (OpenSpec.ofChange fnProjectPicksColumnsWrong)

/-- 'zzlaws_internal_sql_b1.FnProjectComposes': WHATEVER THE INPUT: true; the input reads as it did. -/
def fnProjectComposesSpec : ChangeSpec := { name := "fnProjectComposes", fn := fun _ => fun
  | [d1, d2, d3, d4] => { results := [.lit (.bool true)], args := [d1, d2, d3, d4] }
  | _ => none }
def fnProjectComposesRow : OpenClaim := { program := "qxb6602738a", sum := "829d5a46d023494e78fd6bdfe2187b9296f3534f7d14211e8a1a8807e249f19e", func := "example.com/redoubt/redoubt/zzlaws_internal_sql_b1.FnProjectComposes", spec := "fnProjectComposes", apart := false }
def FnProjectComposesSaid : Prop := fnProjectComposesRow.holds Try.pinned (OpenSpec.ofChange fnProjectComposesSpec)

/-- ITS FALSE NEIGHBOUR: 'it returns false'. Refute it at one input. -/
def fnProjectComposesWrong : ChangeSpec := { name := "fnProjectComposes", fn := fun _ => fun
  | [d1, d2, d3, d4] => { results := [.lit (.bool false)], args := [d1, d2, d3, d4] }
  | _ => none }
def FnProjectComposesWrongFalsely : Prop := fnProjectComposesRow.holds Try.pinned (OpenSpec.ofChange fnProjectComposesWrong)

/-- 'zzlaws_internal_sql_b1.FnSkipSpaceMatchesAutomaton': WHATEVER THE INPUT: true; the input reads as it did. -/
def fnSkipSpaceMatchesAutomatonSpec : ChangeSpec := { name := "fnSkipSpaceMatchesAutomaton", fn := fun _ => fun
  | [d1, d2] => { results := [.lit (.bool true)], args := [d1, d2] }
  | _ => none }
def fnSkipSpaceMatchesAutomatonRow : OpenClaim := { program := "qxb6602738a", sum := "829d5a46d023494e78fd6bdfe2187b9296f3534f7d14211e8a1a8807e249f19e", func := "example.com/redoubt/redoubt/zzlaws_internal_sql_b1.FnSkipSpaceMatchesAutomaton", spec := "fnSkipSpaceMatchesAutomaton", inPlace := ["internal/bytealg.IndexByteString", "internal/bytealg.IndexString"], named := ["internal/bytealg.MaxLen"], apart := false }
def FnSkipSpaceMatchesAutomatonSaid : Prop := fnSkipSpaceMatchesAutomatonRow.holds Try.pinned (OpenSpec.ofChange fnSkipSpaceMatchesAutomatonSpec)

/-- ITS FALSE NEIGHBOUR: 'it returns false'. Refute it at one input. -/
def fnSkipSpaceMatchesAutomatonWrong : ChangeSpec := { name := "fnSkipSpaceMatchesAutomaton", fn := fun _ => fun
  | [d1, d2] => { results := [.lit (.bool false)], args := [d1, d2] }
  | _ => none }
def FnSkipSpaceMatchesAutomatonWrongFalsely : Prop := fnSkipSpaceMatchesAutomatonRow.holds Try.pinned (OpenSpec.ofChange fnSkipSpaceMatchesAutomatonWrong)

/-- 'zzlaws_internal_sql_b1.FnSkipSpaceShiftInvariant': WHATEVER THE INPUT: true; the input reads as it did. -/
def fnSkipSpaceShiftInvariantSpec : ChangeSpec := { name := "fnSkipSpaceShiftInvariant", fn := fun _ => fun
  | [d1, d2, d3] => { results := [.lit (.bool true)], args := [d1, d2, d3] }
  | _ => none }
def fnSkipSpaceShiftInvariantRow : OpenClaim := { program := "qxb6602738a", sum := "829d5a46d023494e78fd6bdfe2187b9296f3534f7d14211e8a1a8807e249f19e", func := "example.com/redoubt/redoubt/zzlaws_internal_sql_b1.FnSkipSpaceShiftInvariant", spec := "fnSkipSpaceShiftInvariant", inPlace := ["internal/bytealg.IndexByteString", "internal/bytealg.IndexString"], named := ["internal/bytealg.MaxLen"], apart := false }
def FnSkipSpaceShiftInvariantSaid : Prop := fnSkipSpaceShiftInvariantRow.holds Try.pinned (OpenSpec.ofChange fnSkipSpaceShiftInvariantSpec)

/-- ITS FALSE NEIGHBOUR: 'it returns false'. Refute it at one input. -/
def fnSkipSpaceShiftInvariantWrong : ChangeSpec := { name := "fnSkipSpaceShiftInvariant", fn := fun _ => fun
  | [d1, d2, d3] => { results := [.lit (.bool false)], args := [d1, d2, d3] }
  | _ => none }
def FnSkipSpaceShiftInvariantWrongFalsely : Prop := fnSkipSpaceShiftInvariantRow.holds Try.pinned (OpenSpec.ofChange fnSkipSpaceShiftInvariantWrong)

/-- 'zzlaws_internal_sql_b1.FnSkipSpaceLandsAndStays': WHATEVER THE INPUT: true; the input reads as it did. -/
def fnSkipSpaceLandsAndStaysSpec : ChangeSpec := { name := "fnSkipSpaceLandsAndStays", fn := fun _ => fun
  | [d1, d2] => { results := [.lit (.bool true)], args := [d1, d2] }
  | _ => none }
def fnSkipSpaceLandsAndStaysRow : OpenClaim := { program := "qxb6602738a", sum := "829d5a46d023494e78fd6bdfe2187b9296f3534f7d14211e8a1a8807e249f19e", func := "example.com/redoubt/redoubt/zzlaws_internal_sql_b1.FnSkipSpaceLandsAndStays", spec := "fnSkipSpaceLandsAndStays", inPlace := ["internal/bytealg.IndexByteString", "internal/bytealg.IndexString"], named := ["internal/bytealg.MaxLen"], apart := false }
def FnSkipSpaceLandsAndStaysSaid : Prop := fnSkipSpaceLandsAndStaysRow.holds Try.pinned (OpenSpec.ofChange fnSkipSpaceLandsAndStaysSpec)

/-- ITS FALSE NEIGHBOUR: 'it returns false'. Refute it at one input. -/
def fnSkipSpaceLandsAndStaysWrong : ChangeSpec := { name := "fnSkipSpaceLandsAndStays", fn := fun _ => fun
  | [d1, d2] => { results := [.lit (.bool false)], args := [d1, d2] }
  | _ => none }
def FnSkipSpaceLandsAndStaysWrongFalsely : Prop := fnSkipSpaceLandsAndStaysRow.holds Try.pinned (OpenSpec.ofChange fnSkipSpaceLandsAndStaysWrong)

/-- 'zzlaws_internal_sql_b1.FnReadQuotedMatchesAutomaton': WHATEVER THE INPUT: true; the input reads as it did. -/
def fnReadQuotedMatchesAutomatonSpec : ChangeSpec := { name := "fnReadQuotedMatchesAutomaton", fn := fun _ => fun
  | [d1, d2, d3] => { results := [.lit (.bool true)], args := [d1, d2, d3] }
  | _ => none }
def fnReadQuotedMatchesAutomatonRow : OpenClaim := { program := "qxb6602738a", sum := "829d5a46d023494e78fd6bdfe2187b9296f3534f7d14211e8a1a8807e249f19e", func := "example.com/redoubt/redoubt/zzlaws_internal_sql_b1.FnReadQuotedMatchesAutomaton", spec := "fnReadQuotedMatchesAutomaton", inPlace := ["internal/abi.NoEscape"], apart := false }
def FnReadQuotedMatchesAutomatonSaid : Prop := fnReadQuotedMatchesAutomatonRow.holds Try.pinned (OpenSpec.ofChange fnReadQuotedMatchesAutomatonSpec)

/-- ITS FALSE NEIGHBOUR: 'it returns false'. Refute it at one input. -/
def fnReadQuotedMatchesAutomatonWrong : ChangeSpec := { name := "fnReadQuotedMatchesAutomaton", fn := fun _ => fun
  | [d1, d2, d3] => { results := [.lit (.bool false)], args := [d1, d2, d3] }
  | _ => none }
def FnReadQuotedMatchesAutomatonWrongFalsely : Prop := fnReadQuotedMatchesAutomatonRow.holds Try.pinned (OpenSpec.ofChange fnReadQuotedMatchesAutomatonWrong)

/-- 'zzlaws_internal_sql_b1.FnReadQuotedRoundTrip': WHATEVER THE INPUT: true; the input reads as it did. -/
def fnReadQuotedRoundTripSpec : ChangeSpec := { name := "fnReadQuotedRoundTrip", fn := fun _ => fun
  | [d1, d2, d3, d4, d5] => { results := [.lit (.bool true)], args := [d1, d2, d3, d4, d5] }
  | _ => none }
def fnReadQuotedRoundTripRow : OpenClaim := { program := "qxb6602738a", sum := "829d5a46d023494e78fd6bdfe2187b9296f3534f7d14211e8a1a8807e249f19e", func := "example.com/redoubt/redoubt/zzlaws_internal_sql_b1.FnReadQuotedRoundTrip", spec := "fnReadQuotedRoundTrip", inPlace := ["internal/abi.NoEscape"], apart := false }
def FnReadQuotedRoundTripSaid : Prop := fnReadQuotedRoundTripRow.holds Try.pinned (OpenSpec.ofChange fnReadQuotedRoundTripSpec)

/-- ITS FALSE NEIGHBOUR: 'it returns false'. Refute it at one input. -/
def fnReadQuotedRoundTripWrong : ChangeSpec := { name := "fnReadQuotedRoundTrip", fn := fun _ => fun
  | [d1, d2, d3, d4, d5] => { results := [.lit (.bool false)], args := [d1, d2, d3, d4, d5] }
  | _ => none }
def FnReadQuotedRoundTripWrongFalsely : Prop := fnReadQuotedRoundTripRow.holds Try.pinned (OpenSpec.ofChange fnReadQuotedRoundTripWrong)

/-- 'zzlaws_internal_sql_b1.FnReadQuotedEndsAtLoneQuote': WHATEVER THE INPUT: true; the input reads as it did. -/
def fnReadQuotedEndsAtLoneQuoteSpec : ChangeSpec := { name := "fnReadQuotedEndsAtLoneQuote", fn := fun _ => fun
  | [d1, d2, d3] => { results := [.lit (.bool true)], args := [d1, d2, d3] }
  | _ => none }
def fnReadQuotedEndsAtLoneQuoteRow : OpenClaim := { program := "qxb6602738a", sum := "829d5a46d023494e78fd6bdfe2187b9296f3534f7d14211e8a1a8807e249f19e", func := "example.com/redoubt/redoubt/zzlaws_internal_sql_b1.FnReadQuotedEndsAtLoneQuote", spec := "fnReadQuotedEndsAtLoneQuote", inPlace := ["internal/abi.NoEscape"], apart := false }
def FnReadQuotedEndsAtLoneQuoteSaid : Prop := fnReadQuotedEndsAtLoneQuoteRow.holds Try.pinned (OpenSpec.ofChange fnReadQuotedEndsAtLoneQuoteSpec)

/-- ITS FALSE NEIGHBOUR: 'it returns false'. Refute it at one input. -/
def fnReadQuotedEndsAtLoneQuoteWrong : ChangeSpec := { name := "fnReadQuotedEndsAtLoneQuote", fn := fun _ => fun
  | [d1, d2, d3] => { results := [.lit (.bool false)], args := [d1, d2, d3] }
  | _ => none }
def FnReadQuotedEndsAtLoneQuoteWrongFalsely : Prop := fnReadQuotedEndsAtLoneQuoteRow.holds Try.pinned (OpenSpec.ofChange fnReadQuotedEndsAtLoneQuoteWrong)

end Rows
end Go.Proofs.Qxb6602738a
