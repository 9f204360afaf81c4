/-
  No cell of these rows narrows 'for every input' (looked for: loops, veiled, ifaces, maps, wideKeys, modest, calm, conditions, laid).
  DERIVED. THE GIVEN ROWS OF THIS SEAT. 6 by the template 'for every input the law returns true; each argument reads behind the call as it read before'; 0 by the template 'total and deterministic' (their statements: Qxb6619243aTotals.lean).
  GIVEN WITH THE SEED: the statements are not yours to turn. If you find one false, say at which input.
  Laid BY PROGRAM, IN A SANDBOX (cutbox-rows.mjs): the forced cells as the released guide's own fill.sh prints them over the translation 7fb889fdf84fd695… (all of the seat's roots in one cut). By AI agents, Wed Nov 11 2026. No macro, syntax, notation, axiom, sorry.
-/
import Derived.Test.Qxb6619243aChecked
import GoSem.Claim
import GoSem.ClaimJoined
import GoSem.ClaimMapViews
import Derived.JoinedTies
import Derived.KernelRfl
namespace Go.Proofs.Qxb6619243a
/- THE CELL 'sum', in the pinned program and in every row, IS THE sha256 OF THE DUMP (.gsa) THAT Qxb6619243aProg.lean LOADS. Nothing in Lean hashes anything: it is a label: what it is worth is what the hold of that sum in a sandbox is worth. -/
noncomputable def Try.pinned : Pinned := { name := "qxb6619243a", sum := "7fb889fdf84fd695c61877efc297930df38c28a3c2ca6db2ae5c399f648aa9a6", checked := Try.checked }
namespace Rows
def none {H : Type} : Left H := { results := [], args := [] }

/-- 'zzlaws_internal_decimal_b1.FnSignificantMatchesDigitSpan': WHATEVER THE INPUT: true; the input reads as it did. -/
def fnSignificantMatchesDigitSpanSpec : ChangeSpec := { name := "fnSignificantMatchesDigitSpan", fn := fun _ => fun
  | [d1, d2, d3, d4] => { results := [.lit (.bool true)], args := [d1, d2, d3, d4] }
  | _ => none }
def fnSignificantMatchesDigitSpanRow : OpenClaim := { program := "qxb6619243a", sum := "7fb889fdf84fd695c61877efc297930df38c28a3c2ca6db2ae5c399f648aa9a6", func := "example.com/assay/assay/zzlaws_internal_decimal_b1.FnSignificantMatchesDigitSpan", spec := "fnSignificantMatchesDigitSpan", apart := false }
def FnSignificantMatchesDigitSpanSaid : Prop := fnSignificantMatchesDigitSpanRow.holds Try.pinned (OpenSpec.ofChange fnSignificantMatchesDigitSpanSpec)

/-- ITS FALSE NEIGHBOUR: 'it returns false'. Refute it at one input. -/
def fnSignificantMatchesDigitSpanWrong : ChangeSpec := { name := "fnSignificantMatchesDigitSpan", fn := fun _ => fun
  | [d1, d2, d3, d4] => { results := [.lit (.bool false)], args := [d1, d2, d3, d4] }
  | _ => none }
def FnSignificantMatchesDigitSpanWrongFalsely : Prop := fnSignificantMatchesDigitSpanRow.holds Try.pinned (OpenSpec.ofChange fnSignificantMatchesDigitSpanWrong)

/-- 'zzlaws_internal_decimal_b1.FnSmallExponentMatchesPlaceValues': WHATEVER THE INPUT: true; the input reads as it did. -/
def fnSmallExponentMatchesPlaceValuesSpec : ChangeSpec := { name := "fnSmallExponentMatchesPlaceValues", fn := fun _ => fun
  | [d] => { results := [.lit (.bool true)], args := [d] }
  | _ => none }
def fnSmallExponentMatchesPlaceValuesRow : OpenClaim := { program := "qxb6619243a", sum := "7fb889fdf84fd695c61877efc297930df38c28a3c2ca6db2ae5c399f648aa9a6", func := "example.com/assay/assay/zzlaws_internal_decimal_b1.FnSmallExponentMatchesPlaceValues", spec := "fnSmallExponentMatchesPlaceValues", apart := false }
def FnSmallExponentMatchesPlaceValuesSaid : Prop := fnSmallExponentMatchesPlaceValuesRow.holds Try.pinned (OpenSpec.ofChange fnSmallExponentMatchesPlaceValuesSpec)

/-- ITS FALSE NEIGHBOUR: 'it returns false'. Refute it at one input. -/
def fnSmallExponentMatchesPlaceValuesWrong : ChangeSpec := { name := "fnSmallExponentMatchesPlaceValues", fn := fun _ => fun
  | [d] => { results := [.lit (.bool false)], args := [d] }
  | _ => none }
def FnSmallExponentMatchesPlaceValuesWrongFalsely : Prop := fnSmallExponentMatchesPlaceValuesRow.holds Try.pinned (OpenSpec.ofChange fnSmallExponentMatchesPlaceValuesWrong)

/-- 'zzlaws_internal_decimal_b1.FnSmallExponentSignNegates': WHATEVER THE INPUT: true; the input reads as it did. -/
def fnSmallExponentSignNegatesSpec : ChangeSpec := { name := "fnSmallExponentSignNegates", fn := fun _ => fun
  | [d] => { results := [.lit (.bool true)], args := [d] }
  | _ => none }
def fnSmallExponentSignNegatesRow : OpenClaim := { program := "qxb6619243a", sum := "7fb889fdf84fd695c61877efc297930df38c28a3c2ca6db2ae5c399f648aa9a6", func := "example.com/assay/assay/zzlaws_internal_decimal_b1.FnSmallExponentSignNegates", spec := "fnSmallExponentSignNegates", apart := false }
def FnSmallExponentSignNegatesSaid : Prop := fnSmallExponentSignNegatesRow.holds Try.pinned (OpenSpec.ofChange fnSmallExponentSignNegatesSpec)

/-- ITS FALSE NEIGHBOUR: 'it returns false'. Refute it at one input. -/
def fnSmallExponentSignNegatesWrong : ChangeSpec := { name := "fnSmallExponentSignNegates", fn := fun _ => fun
  | [d] => { results := [.lit (.bool false)], args := [d] }
  | _ => none }
def FnSmallExponentSignNegatesWrongFalsely : Prop := fnSmallExponentSignNegatesRow.holds Try.pinned (OpenSpec.ofChange fnSmallExponentSignNegatesWrong)

/-- 'zzlaws_internal_decimal_b1.FnParseMatchesGrammarAutomaton': WHATEVER THE INPUT: true; the input reads as it did. -/
def fnParseMatchesGrammarAutomatonSpec : ChangeSpec := { name := "fnParseMatchesGrammarAutomaton", fn := fun _ => fun
  | [d] => { results := [.lit (.bool true)], args := [d] }
  | _ => none }
def fnParseMatchesGrammarAutomatonRow : OpenClaim := { program := "qxb6619243a", sum := "7fb889fdf84fd695c61877efc297930df38c28a3c2ca6db2ae5c399f648aa9a6", func := "example.com/assay/assay/zzlaws_internal_decimal_b1.FnParseMatchesGrammarAutomaton", spec := "fnParseMatchesGrammarAutomaton", apart := false }
def FnParseMatchesGrammarAutomatonSaid : Prop := fnParseMatchesGrammarAutomatonRow.holds Try.pinned (OpenSpec.ofChange fnParseMatchesGrammarAutomatonSpec)

/-- ITS FALSE NEIGHBOUR: 'it returns false'. Refute it at one input. -/
def fnParseMatchesGrammarAutomatonWrong : ChangeSpec := { name := "fnParseMatchesGrammarAutomaton", fn := fun _ => fun
  | [d] => { results := [.lit (.bool false)], args := [d] }
  | _ => none }
def FnParseMatchesGrammarAutomatonWrongFalsely : Prop := fnParseMatchesGrammarAutomatonRow.holds Try.pinned (OpenSpec.ofChange fnParseMatchesGrammarAutomatonWrong)

/-- 'zzlaws_internal_decimal_b1.FnParseMinusNegatesOnly': WHATEVER THE INPUT: true; the input reads as it did. -/
def fnParseMinusNegatesOnlySpec : ChangeSpec := { name := "fnParseMinusNegatesOnly", fn := fun _ => fun
  | [d] => { results := [.lit (.bool true)], args := [d] }
  | _ => none }
def fnParseMinusNegatesOnlyRow : OpenClaim := { program := "qxb6619243a", sum := "7fb889fdf84fd695c61877efc297930df38c28a3c2ca6db2ae5c399f648aa9a6", func := "example.com/assay/assay/zzlaws_internal_decimal_b1.FnParseMinusNegatesOnly", spec := "fnParseMinusNegatesOnly", apart := false }
def FnParseMinusNegatesOnlySaid : Prop := fnParseMinusNegatesOnlyRow.holds Try.pinned (OpenSpec.ofChange fnParseMinusNegatesOnlySpec)

/-- ITS FALSE NEIGHBOUR: 'it returns false'. Refute it at one input. -/
def fnParseMinusNegatesOnlyWrong : ChangeSpec := { name := "fnParseMinusNegatesOnly", fn := fun _ => fun
  | [d] => { results := [.lit (.bool false)], args := [d] }
  | _ => none }
def FnParseMinusNegatesOnlyWrongFalsely : Prop := fnParseMinusNegatesOnlyRow.holds Try.pinned (OpenSpec.ofChange fnParseMinusNegatesOnlyWrong)

/-- 'zzlaws_internal_decimal_b1.FnSignificantMovingThePointShiftsIt': WHATEVER THE INPUT: true; the input reads as it did. -/
def fnSignificantMovingThePointShiftsItSpec : ChangeSpec := { name := "fnSignificantMovingThePointShiftsIt", fn := fun _ => fun
  | [d1, d2, d3, d4, d5] => { results := [.lit (.bool true)], args := [d1, d2, d3, d4, d5] }
  | _ => none }
def fnSignificantMovingThePointShiftsItRow : OpenClaim := { program := "qxb6619243a", sum := "7fb889fdf84fd695c61877efc297930df38c28a3c2ca6db2ae5c399f648aa9a6", func := "example.com/assay/assay/zzlaws_internal_decimal_b1.FnSignificantMovingThePointShiftsIt", spec := "fnSignificantMovingThePointShiftsIt", apart := false }
def FnSignificantMovingThePointShiftsItSaid : Prop := fnSignificantMovingThePointShiftsItRow.holds Try.pinned (OpenSpec.ofChange fnSignificantMovingThePointShiftsItSpec)

/-- ITS FALSE NEIGHBOUR: 'it returns false'. Refute it at one input. -/
def fnSignificantMovingThePointShiftsItWrong : ChangeSpec := { name := "fnSignificantMovingThePointShiftsIt", fn := fun _ => fun
  | [d1, d2, d3, d4, d5] => { results := [.lit (.bool false)], args := [d1, d2, d3, d4, d5] }
  | _ => none }
def FnSignificantMovingThePointShiftsItWrongFalsely : Prop := fnSignificantMovingThePointShiftsItRow.holds Try.pinned (OpenSpec.ofChange fnSignificantMovingThePointShiftsItWrong)

end Rows
end Go.Proofs.Qxb6619243a
