/-
  No cell of these rows narrows 'for every input' (looked for: loops, veiled, ifaces, maps, wideKeys, modest, calm, conditions, laid).
  DERIVED. THE GIVEN ROWS OF THIS SEAT. 3 by the template 'for every input the law returns true; each argument reads behind the call as it read before'; 0 by the template 'total and deterministic' (their statements: Qxb6619379aTotals.lean).
  GIVEN WITH THE SEED: the statements are not yours to turn. If you find one false, say at which input.
  Laid BY PROGRAM, IN A SANDBOX (cutbox-rows.mjs): the forced cells as the released guide's own fill.sh prints them over the translation 37a2c6a2aa8e5533… (all of the seat's roots in one cut). By AI agents, Wed Nov 11 2026. No macro, syntax, notation, axiom, sorry.
-/
import Derived.Test.Qxb6619379aChecked
import GoSem.Claim
import GoSem.ClaimJoined
import GoSem.ClaimMapViews
import Derived.JoinedTies
import Derived.KernelRfl
namespace Go.Proofs.Qxb6619379a
/- THE CELL 'sum', in the pinned program and in every row, IS THE sha256 OF THE DUMP (.gsa) THAT Qxb6619379aProg.lean LOADS. Nothing in Lean hashes anything: it is a label: what it is worth is what the hold of that sum in a sandbox is worth. -/
noncomputable def Try.pinned : Pinned := { name := "qxb6619379a", sum := "37a2c6a2aa8e5533994876388b6bd8595f626c6592b7055dd12f6bd87811a204", checked := Try.checked }
namespace Rows
def none {H : Type} : Left H := { results := [], args := [] }

/-- 'zzlaws_pkg_server_b1.FnMustEncodeLettersPassDelimiterNamed': WHATEVER THE INPUT: true; the input reads as it did. -/
def fnMustEncodeLettersPassDelimiterNamedSpec : ChangeSpec := { name := "fnMustEncodeLettersPassDelimiterNamed", fn := fun _ => fun
  | [d1, d2, d3, d4] => { results := [.lit (.bool true)], args := [d1, d2, d3, d4] }
  | _ => none }
def fnMustEncodeLettersPassDelimiterNamedRow : OpenClaim := { program := "qxb6619379a", sum := "37a2c6a2aa8e5533994876388b6bd8595f626c6592b7055dd12f6bd87811a204", func := "example.com/tidewater/tidewater/zzlaws_pkg_server_b1.FnMustEncodeLettersPassDelimiterNamed", spec := "fnMustEncodeLettersPassDelimiterNamed", inPlace := ["internal/bytealg.IndexByteString", "internal/bytealg.IndexString"], named := ["internal/bytealg.MaxLen"], apart := false }
def FnMustEncodeLettersPassDelimiterNamedSaid : Prop := fnMustEncodeLettersPassDelimiterNamedRow.holds Try.pinned (OpenSpec.ofChange fnMustEncodeLettersPassDelimiterNamedSpec)

/-- ITS FALSE NEIGHBOUR: 'it returns false'. Refute it at one input. -/
def fnMustEncodeLettersPassDelimiterNamedWrong : ChangeSpec := { name := "fnMustEncodeLettersPassDelimiterNamed", fn := fun _ => fun
  | [d1, d2, d3, d4] => { results := [.lit (.bool false)], args := [d1, d2, d3, d4] }
  | _ => none }
def FnMustEncodeLettersPassDelimiterNamedWrongFalsely : Prop := fnMustEncodeLettersPassDelimiterNamedRow.holds Try.pinned (OpenSpec.ofChange fnMustEncodeLettersPassDelimiterNamedWrong)

/-- 'zzlaws_pkg_server_b1.FnTakesSchemeCutAndInsert': WHATEVER THE INPUT: true; the input reads as it did. -/
def fnTakesSchemeCutAndInsertSpec : ChangeSpec := { name := "fnTakesSchemeCutAndInsert", fn := fun _ => fun
  | [d1, d2, d3, d4, d5] => { results := [.lit (.bool true)], args := [d1, d2, d3, d4, d5] }
  | _ => none }
def fnTakesSchemeCutAndInsertRow : OpenClaim := { program := "qxb6619379a", sum := "37a2c6a2aa8e5533994876388b6bd8595f626c6592b7055dd12f6bd87811a204", func := "example.com/tidewater/tidewater/zzlaws_pkg_server_b1.FnTakesSchemeCutAndInsert", spec := "fnTakesSchemeCutAndInsert", apart := false }
def FnTakesSchemeCutAndInsertSaid : Prop := fnTakesSchemeCutAndInsertRow.holds Try.pinned (OpenSpec.ofChange fnTakesSchemeCutAndInsertSpec)

/-- ITS FALSE NEIGHBOUR: 'it returns false'. Refute it at one input. -/
def fnTakesSchemeCutAndInsertWrong : ChangeSpec := { name := "fnTakesSchemeCutAndInsert", fn := fun _ => fun
  | [d1, d2, d3, d4, d5] => { results := [.lit (.bool false)], args := [d1, d2, d3, d4, d5] }
  | _ => none }
def FnTakesSchemeCutAndInsertWrongFalsely : Prop := fnTakesSchemeCutAndInsertRow.holds Try.pinned (OpenSpec.ofChange fnTakesSchemeCutAndInsertWrong)

/-- 'zzlaws_pkg_server_b1.FnTakesSchemeOneInsertedAllRemoved': WHATEVER THE INPUT: true; the input reads as it did. -/
def fnTakesSchemeOneInsertedAllRemovedSpec : ChangeSpec := { name := "fnTakesSchemeOneInsertedAllRemoved", fn := fun _ => fun
  | [d1, d2, d3, d4, d5, d6, d7, d8] => { results := [.lit (.bool true)], args := [d1, d2, d3, d4, d5, d6, d7, d8] }
  | _ => none }
def fnTakesSchemeOneInsertedAllRemovedRow : OpenClaim := { program := "qxb6619379a", sum := "37a2c6a2aa8e5533994876388b6bd8595f626c6592b7055dd12f6bd87811a204", func := "example.com/tidewater/tidewater/zzlaws_pkg_server_b1.FnTakesSchemeOneInsertedAllRemoved", spec := "fnTakesSchemeOneInsertedAllRemoved", apart := false }
def FnTakesSchemeOneInsertedAllRemovedSaid : Prop := fnTakesSchemeOneInsertedAllRemovedRow.holds Try.pinned (OpenSpec.ofChange fnTakesSchemeOneInsertedAllRemovedSpec)

/-- ITS FALSE NEIGHBOUR: 'it returns false'. Refute it at one input. -/
def fnTakesSchemeOneInsertedAllRemovedWrong : ChangeSpec := { name := "fnTakesSchemeOneInsertedAllRemoved", fn := fun _ => fun
  | [d1, d2, d3, d4, d5, d6, d7, d8] => { results := [.lit (.bool false)], args := [d1, d2, d3, d4, d5, d6, d7, d8] }
  | _ => none }
def FnTakesSchemeOneInsertedAllRemovedWrongFalsely : Prop := fnTakesSchemeOneInsertedAllRemovedRow.holds Try.pinned (OpenSpec.ofChange fnTakesSchemeOneInsertedAllRemovedWrong)

end Rows
end Go.Proofs.Qxb6619379a
