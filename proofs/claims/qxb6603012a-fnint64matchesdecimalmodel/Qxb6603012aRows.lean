/-
  No cell of these rows narrows 'for every input' (looked for: loops, veiled, ifaces, maps, wideKeys, modest, calm, conditions, laid).
  DERIVED. THE GIVEN ROWS OF THIS SEAT. 7 by the template 'for every input the law returns true; each argument reads behind the call as it read before'; 0 by the template 'total and deterministic' (their statements: Qxb6603012aTotals.lean).
  GIVEN WITH THE SEED: the statements are not yours to turn. If you find one false, say at which input.
  Laid BY PROGRAM, IN A SANDBOX (cutbox-rows.mjs): the forced cells as the released guide's own fill.sh prints them over the translation 079dd8e8dd8cd543… (all of the seat's roots in one cut). By AI agents, Wed Nov 11 2026. No macro, syntax, notation, axiom, sorry.
-/
import Derived.Test.Qxb6603012aChecked
import GoSem.Claim
import GoSem.ClaimJoined
import GoSem.ClaimMapViews
import Derived.JoinedTies
import Derived.KernelRfl
namespace Go.Proofs.Qxb6603012a
/- THE CELL 'sum', in the pinned program and in every row, IS THE sha256 OF THE DUMP (.gsa) THAT Qxb6603012aProg.lean LOADS. Nothing in Lean hashes anything: it is a label: what it is worth is what the hold of that sum in a sandbox is worth. -/
noncomputable def Try.pinned : Pinned := { name := "qxb6603012a", sum := "079dd8e8dd8cd5436244e08dac5ac37b80e065c59cee46c400fbc2397109478d", checked := Try.checked }
namespace Rows
def none {H : Type} : Left H := { results := [], args := [] }

/-- 'zzlaws_trace2_b1.FnHex4MatchesDigitTable': WHATEVER THE INPUT: true; the input reads as it did. -/
def fnHex4MatchesDigitTableSpec : ChangeSpec := { name := "fnHex4MatchesDigitTable", fn := fun _ => fun
  | [d] => { results := [.lit (.bool true)], args := [d] }
  | _ => none }
def fnHex4MatchesDigitTableRow : OpenClaim := { program := "qxb6603012a", sum := "079dd8e8dd8cd5436244e08dac5ac37b80e065c59cee46c400fbc2397109478d", func := "example.com/elapsemap/elapsemap/zzlaws_trace2_b1.FnHex4MatchesDigitTable", spec := "fnHex4MatchesDigitTable", apart := false }
def FnHex4MatchesDigitTableSaid : Prop := fnHex4MatchesDigitTableRow.holds Try.pinned (OpenSpec.ofChange fnHex4MatchesDigitTableSpec)

/-- ITS FALSE NEIGHBOUR: 'it returns false'. Refute it at one input. -/
def fnHex4MatchesDigitTableWrong : ChangeSpec := { name := "fnHex4MatchesDigitTable", fn := fun _ => fun
  | [d] => { results := [.lit (.bool false)], args := [d] }
  | _ => none }
def FnHex4MatchesDigitTableWrongFalsely : Prop := fnHex4MatchesDigitTableRow.holds Try.pinned (OpenSpec.ofChange fnHex4MatchesDigitTableWrong)

/-- 'zzlaws_trace2_b1.FnHex4ReadsBackFourHexDigits': WHATEVER THE INPUT: true; the input reads as it did. -/
def fnHex4ReadsBackFourHexDigitsSpec : ChangeSpec := { name := "fnHex4ReadsBackFourHexDigits", fn := fun _ => fun
  | [d1, d2, d3] => { results := [.lit (.bool true)], args := [d1, d2, d3] }
  | _ => none }
def fnHex4ReadsBackFourHexDigitsRow : OpenClaim := { program := "qxb6603012a", sum := "079dd8e8dd8cd5436244e08dac5ac37b80e065c59cee46c400fbc2397109478d", func := "example.com/elapsemap/elapsemap/zzlaws_trace2_b1.FnHex4ReadsBackFourHexDigits", spec := "fnHex4ReadsBackFourHexDigits", apart := false }
def FnHex4ReadsBackFourHexDigitsSaid : Prop := fnHex4ReadsBackFourHexDigitsRow.holds Try.pinned (OpenSpec.ofChange fnHex4ReadsBackFourHexDigitsSpec)

/-- ITS FALSE NEIGHBOUR: 'it returns false'. Refute it at one input. -/
def fnHex4ReadsBackFourHexDigitsWrong : ChangeSpec := { name := "fnHex4ReadsBackFourHexDigits", fn := fun _ => fun
  | [d1, d2, d3] => { results := [.lit (.bool false)], args := [d1, d2, d3] }
  | _ => none }
def FnHex4ReadsBackFourHexDigitsWrongFalsely : Prop := fnHex4ReadsBackFourHexDigitsRow.holds Try.pinned (OpenSpec.ofChange fnHex4ReadsBackFourHexDigitsWrong)

/-- 'zzlaws_trace2_b1.FnNumberMatchesJSONNumberAutomaton': WHATEVER THE INPUT: true; the input reads as it did. -/
def fnNumberMatchesJSONNumberAutomatonSpec : ChangeSpec := { name := "fnNumberMatchesJSONNumberAutomaton", fn := fun _ => fun
  | [d1, d2] => { results := [.lit (.bool true)], args := [d1, d2] }
  | _ => none }
def fnNumberMatchesJSONNumberAutomatonRow : OpenClaim := { program := "qxb6603012a", sum := "079dd8e8dd8cd5436244e08dac5ac37b80e065c59cee46c400fbc2397109478d", func := "example.com/elapsemap/elapsemap/zzlaws_trace2_b1.FnNumberMatchesJSONNumberAutomaton", spec := "fnNumberMatchesJSONNumberAutomaton", apart := false }
def FnNumberMatchesJSONNumberAutomatonSaid : Prop := fnNumberMatchesJSONNumberAutomatonRow.holds Try.pinned (OpenSpec.ofChange fnNumberMatchesJSONNumberAutomatonSpec)

/-- ITS FALSE NEIGHBOUR: 'it returns false'. Refute it at one input. -/
def fnNumberMatchesJSONNumberAutomatonWrong : ChangeSpec := { name := "fnNumberMatchesJSONNumberAutomaton", fn := fun _ => fun
  | [d1, d2] => { results := [.lit (.bool false)], args := [d1, d2] }
  | _ => none }
def FnNumberMatchesJSONNumberAutomatonWrongFalsely : Prop := fnNumberMatchesJSONNumberAutomatonRow.holds Try.pinned (OpenSpec.ofChange fnNumberMatchesJSONNumberAutomatonWrong)

/-- 'zzlaws_trace2_b1.FnNumberDependsOnlyOnWhatFollowsI': WHATEVER THE INPUT: true; the input reads as it did. -/
def fnNumberDependsOnlyOnWhatFollowsISpec : ChangeSpec := { name := "fnNumberDependsOnlyOnWhatFollowsI", fn := fun _ => fun
  | [d1, d2] => { results := [.lit (.bool true)], args := [d1, d2] }
  | _ => none }
def fnNumberDependsOnlyOnWhatFollowsIRow : OpenClaim := { program := "qxb6603012a", sum := "079dd8e8dd8cd5436244e08dac5ac37b80e065c59cee46c400fbc2397109478d", func := "example.com/elapsemap/elapsemap/zzlaws_trace2_b1.FnNumberDependsOnlyOnWhatFollowsI", spec := "fnNumberDependsOnlyOnWhatFollowsI", apart := false }
def FnNumberDependsOnlyOnWhatFollowsISaid : Prop := fnNumberDependsOnlyOnWhatFollowsIRow.holds Try.pinned (OpenSpec.ofChange fnNumberDependsOnlyOnWhatFollowsISpec)

/-- ITS FALSE NEIGHBOUR: 'it returns false'. Refute it at one input. -/
def fnNumberDependsOnlyOnWhatFollowsIWrong : ChangeSpec := { name := "fnNumberDependsOnlyOnWhatFollowsI", fn := fun _ => fun
  | [d1, d2] => { results := [.lit (.bool false)], args := [d1, d2] }
  | _ => none }
def FnNumberDependsOnlyOnWhatFollowsIWrongFalsely : Prop := fnNumberDependsOnlyOnWhatFollowsIRow.holds Try.pinned (OpenSpec.ofChange fnNumberDependsOnlyOnWhatFollowsIWrong)

/-- 'zzlaws_trace2_b1.FnInt64MatchesDecimalModel': WHATEVER THE INPUT: true; the input reads as it did. -/
def fnInt64MatchesDecimalModelSpec : ChangeSpec := { name := "fnInt64MatchesDecimalModel", fn := fun _ => fun
  | [d1, d2, d3] => { results := [.lit (.bool true)], args := [d1, d2, d3] }
  | _ => none }
def fnInt64MatchesDecimalModelRow : OpenClaim := { program := "qxb6603012a", sum := "079dd8e8dd8cd5436244e08dac5ac37b80e065c59cee46c400fbc2397109478d", func := "example.com/elapsemap/elapsemap/zzlaws_trace2_b1.FnInt64MatchesDecimalModel", spec := "fnInt64MatchesDecimalModel", apart := false }
def FnInt64MatchesDecimalModelSaid : Prop := fnInt64MatchesDecimalModelRow.holds Try.pinned (OpenSpec.ofChange fnInt64MatchesDecimalModelSpec)

/-- ITS FALSE NEIGHBOUR: 'it returns false'. Refute it at one input. -/
def fnInt64MatchesDecimalModelWrong : ChangeSpec := { name := "fnInt64MatchesDecimalModel", fn := fun _ => fun
  | [d1, d2, d3] => { results := [.lit (.bool false)], args := [d1, d2, d3] }
  | _ => none }
def FnInt64MatchesDecimalModelWrongFalsely : Prop := fnInt64MatchesDecimalModelRow.holds Try.pinned (OpenSpec.ofChange fnInt64MatchesDecimalModelWrong)

/-- 'zzlaws_trace2_b1.FnInt64ReadsBackItsDecimal': WHATEVER THE INPUT: true; the input reads as it did. -/
def fnInt64ReadsBackItsDecimalSpec : ChangeSpec := { name := "fnInt64ReadsBackItsDecimal", fn := fun _ => fun
  | [d1, d2, d3, d4] => { results := [.lit (.bool true)], args := [d1, d2, d3, d4] }
  | _ => none }
def fnInt64ReadsBackItsDecimalRow : OpenClaim := { program := "qxb6603012a", sum := "079dd8e8dd8cd5436244e08dac5ac37b80e065c59cee46c400fbc2397109478d", func := "example.com/elapsemap/elapsemap/zzlaws_trace2_b1.FnInt64ReadsBackItsDecimal", spec := "fnInt64ReadsBackItsDecimal", apart := false }
def FnInt64ReadsBackItsDecimalSaid : Prop := fnInt64ReadsBackItsDecimalRow.holds Try.pinned (OpenSpec.ofChange fnInt64ReadsBackItsDecimalSpec)

/-- ITS FALSE NEIGHBOUR: 'it returns false'. Refute it at one input. -/
def fnInt64ReadsBackItsDecimalWrong : ChangeSpec := { name := "fnInt64ReadsBackItsDecimal", fn := fun _ => fun
  | [d1, d2, d3, d4] => { results := [.lit (.bool false)], args := [d1, d2, d3, d4] }
  | _ => none }
def FnInt64ReadsBackItsDecimalWrongFalsely : Prop := fnInt64ReadsBackItsDecimalRow.holds Try.pinned (OpenSpec.ofChange fnInt64ReadsBackItsDecimalWrong)

/-- 'zzlaws_trace2_b1.FnInt64StopsWhereNumberStops': WHATEVER THE INPUT: true; the input reads as it did. -/
def fnInt64StopsWhereNumberStopsSpec : ChangeSpec := { name := "fnInt64StopsWhereNumberStops", fn := fun _ => fun
  | [d1, d2, d3] => { results := [.lit (.bool true)], args := [d1, d2, d3] }
  | _ => none }
def fnInt64StopsWhereNumberStopsRow : OpenClaim := { program := "qxb6603012a", sum := "079dd8e8dd8cd5436244e08dac5ac37b80e065c59cee46c400fbc2397109478d", func := "example.com/elapsemap/elapsemap/zzlaws_trace2_b1.FnInt64StopsWhereNumberStops", spec := "fnInt64StopsWhereNumberStops", apart := false }
def FnInt64StopsWhereNumberStopsSaid : Prop := fnInt64StopsWhereNumberStopsRow.holds Try.pinned (OpenSpec.ofChange fnInt64StopsWhereNumberStopsSpec)

/-- ITS FALSE NEIGHBOUR: 'it returns false'. Refute it at one input. -/
def fnInt64StopsWhereNumberStopsWrong : ChangeSpec := { name := "fnInt64StopsWhereNumberStops", fn := fun _ => fun
  | [d1, d2, d3] => { results := [.lit (.bool false)], args := [d1, d2, d3] }
  | _ => none }
def FnInt64StopsWhereNumberStopsWrongFalsely : Prop := fnInt64StopsWhereNumberStopsRow.holds Try.pinned (OpenSpec.ofChange fnInt64StopsWhereNumberStopsWrong)

end Rows
end Go.Proofs.Qxb6603012a
