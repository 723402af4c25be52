/-
  No cell of these rows narrows 'for every input' (looked for: loops, veiled, ifaces, maps, wideKeys, modest, calm, conditions, laid).
  DERIVED. THE GIVEN ROWS OF THIS SEAT. 4 by the template 'for every input the law returns true; each argument reads behind the call as it read before'; 0 by the template 'total and deterministic' (their statements: Qxb6003624aTotals.lean).
  GIVEN WITH THE SEED: the statements are not yours to turn. If you find one false, say at which input.
  Laid BY PROGRAM, IN A SANDBOX (cutbox-rows.mjs): the forced cells as the released guide's own fill.sh prints them over the translation 7225993c996ae6b9… (all of the seat's roots in one cut). By AI agents, Wed Nov 11 2026. No macro, syntax, notation, axiom, sorry.
-/
import Derived.Test.Qxb6003624aChecked
import GoSem.Claim
import GoSem.ClaimJoined
import GoSem.ClaimMapViews
import Derived.JoinedTies
import Derived.KernelRfl
namespace Go.Proofs.Qxb6003624a
/- THE CELL 'sum', in the pinned program and in every row, IS THE sha256 OF THE DUMP (.gsa) THAT Qxb6003624aProg.lean LOADS. Nothing in Lean hashes anything: it is a label: what it is worth is what the hold of that sum in a sandbox is worth. -/
noncomputable def Try.pinned : Pinned := { name := "qxb6003624a", sum := "7225993c996ae6b979a82bc6a62ce6b833b5f35110187f2dcecbf012a7fc7735", checked := Try.checked }
namespace Rows
def none {H : Type} : Left H := { results := [], args := [] }

/-- 'zzlaws_pkg_record_b1.FnCodeUnitMatchesDigitTable': WHATEVER THE INPUT: true; the input reads as it did. -/
def fnCodeUnitMatchesDigitTableSpec : ChangeSpec := { name := "fnCodeUnitMatchesDigitTable", fn := fun _ => fun
  | [d] => { results := [.lit (.bool true)], args := [d] }
  | _ => none }
def fnCodeUnitMatchesDigitTableRow : OpenClaim := { program := "qxb6003624a", sum := "7225993c996ae6b979a82bc6a62ce6b833b5f35110187f2dcecbf012a7fc7735", func := "example.com/attestrail/attestrail/zzlaws_pkg_record_b1.FnCodeUnitMatchesDigitTable", spec := "fnCodeUnitMatchesDigitTable", apart := false }
def FnCodeUnitMatchesDigitTableSaid : Prop := fnCodeUnitMatchesDigitTableRow.holds Try.pinned (OpenSpec.ofChange fnCodeUnitMatchesDigitTableSpec)

/-- ITS FALSE NEIGHBOUR: 'it returns false'. Refute it at one input. -/
def fnCodeUnitMatchesDigitTableWrong : ChangeSpec := { name := "fnCodeUnitMatchesDigitTable", fn := fun _ => fun
  | [d] => { results := [.lit (.bool false)], args := [d] }
  | _ => none }
def FnCodeUnitMatchesDigitTableWrongFalsely : Prop := fnCodeUnitMatchesDigitTableRow.holds Try.pinned (OpenSpec.ofChange fnCodeUnitMatchesDigitTableWrong)

/-- 'zzlaws_pkg_record_b1.FnCodeUnitOrdersLikeFoldedDigits': WHATEVER THE INPUT: true; the input reads as it did. -/
def fnCodeUnitOrdersLikeFoldedDigitsSpec : ChangeSpec := { name := "fnCodeUnitOrdersLikeFoldedDigits", fn := fun _ => fun
  | [d1, d2] => { results := [.lit (.bool true)], args := [d1, d2] }
  | _ => none }
def fnCodeUnitOrdersLikeFoldedDigitsRow : OpenClaim := { program := "qxb6003624a", sum := "7225993c996ae6b979a82bc6a62ce6b833b5f35110187f2dcecbf012a7fc7735", func := "example.com/attestrail/attestrail/zzlaws_pkg_record_b1.FnCodeUnitOrdersLikeFoldedDigits", spec := "fnCodeUnitOrdersLikeFoldedDigits", apart := false }
def FnCodeUnitOrdersLikeFoldedDigitsSaid : Prop := fnCodeUnitOrdersLikeFoldedDigitsRow.holds Try.pinned (OpenSpec.ofChange fnCodeUnitOrdersLikeFoldedDigitsSpec)

/-- ITS FALSE NEIGHBOUR: 'it returns false'. Refute it at one input. -/
def fnCodeUnitOrdersLikeFoldedDigitsWrong : ChangeSpec := { name := "fnCodeUnitOrdersLikeFoldedDigits", fn := fun _ => fun
  | [d1, d2] => { results := [.lit (.bool false)], args := [d1, d2] }
  | _ => none }
def FnCodeUnitOrdersLikeFoldedDigitsWrongFalsely : Prop := fnCodeUnitOrdersLikeFoldedDigitsRow.holds Try.pinned (OpenSpec.ofChange fnCodeUnitOrdersLikeFoldedDigitsWrong)

/-- 'zzlaws_pkg_record_b1.FnCountMembersMatchesParser': WHATEVER THE INPUT: true; the input reads as it did. -/
def fnCountMembersMatchesParserSpec : ChangeSpec := { name := "fnCountMembersMatchesParser", fn := fun _ => fun
  | [d] => { results := [.lit (.bool true)], args := [d] }
  | _ => none }
def fnCountMembersMatchesParserRow : OpenClaim := { program := "qxb6003624a", sum := "7225993c996ae6b979a82bc6a62ce6b833b5f35110187f2dcecbf012a7fc7735", func := "example.com/attestrail/attestrail/zzlaws_pkg_record_b1.FnCountMembersMatchesParser", spec := "fnCountMembersMatchesParser", recurses := true, apart := false }
def FnCountMembersMatchesParserSaid : Prop := fnCountMembersMatchesParserRow.holds Try.pinned (OpenSpec.ofChange fnCountMembersMatchesParserSpec)

/-- ITS FALSE NEIGHBOUR: 'it returns false'. Refute it at one input. -/
def fnCountMembersMatchesParserWrong : ChangeSpec := { name := "fnCountMembersMatchesParser", fn := fun _ => fun
  | [d] => { results := [.lit (.bool false)], args := [d] }
  | _ => none }
def FnCountMembersMatchesParserWrongFalsely : Prop := fnCountMembersMatchesParserRow.holds Try.pinned (OpenSpec.ofChange fnCountMembersMatchesParserWrong)

/-- 'zzlaws_pkg_record_b1.FnTakeScriptClosedForm': WHATEVER THE INPUT: true; the input reads as it did. -/
def fnTakeScriptClosedFormSpec : ChangeSpec := { name := "fnTakeScriptClosedForm", fn := fun _ => fun
  | [d1, d2, d3, d4, d5, d6, d7, d8, d9, d10] => { results := [.lit (.bool true)], args := [d1, d2, d3, d4, d5, d6, d7, d8, d9, d10] }
  | _ => none }
def fnTakeScriptClosedFormRow : OpenClaim := { program := "qxb6003624a", sum := "7225993c996ae6b979a82bc6a62ce6b833b5f35110187f2dcecbf012a7fc7735", func := "example.com/attestrail/attestrail/zzlaws_pkg_record_b1.FnTakeScriptClosedForm", spec := "fnTakeScriptClosedForm", apart := false }
def FnTakeScriptClosedFormSaid : Prop := fnTakeScriptClosedFormRow.holds Try.pinned (OpenSpec.ofChange fnTakeScriptClosedFormSpec)

/-- ITS FALSE NEIGHBOUR: 'it returns false'. Refute it at one input. -/
def fnTakeScriptClosedFormWrong : ChangeSpec := { name := "fnTakeScriptClosedForm", fn := fun _ => fun
  | [d1, d2, d3, d4, d5, d6, d7, d8, d9, d10] => { results := [.lit (.bool false)], args := [d1, d2, d3, d4, d5, d6, d7, d8, d9, d10] }
  | _ => none }
def FnTakeScriptClosedFormWrongFalsely : Prop := fnTakeScriptClosedFormRow.holds Try.pinned (OpenSpec.ofChange fnTakeScriptClosedFormWrong)

end Rows
end Go.Proofs.Qxb6003624a
