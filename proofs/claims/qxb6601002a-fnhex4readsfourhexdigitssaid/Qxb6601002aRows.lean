/-
  No cell of these rows narrows 'for every input' (looked for: loops, veiled, ifaces, maps, wideKeys, modest, calm, conditions, laid).
  DERIVED. THE GIVEN ROWS OF THIS SEAT. 4 by the template 'for every input the law returns true; each argument reads behind the call as it read before'; 0 by the template 'total and deterministic' (their statements: Qxb6601002aTotals.lean).
  GIVEN WITH THE SEED: the statements are not yours to turn. If you find one false, say at which input.
  Laid BY PROGRAM, IN A SANDBOX (cutbox-rows.mjs): the forced cells as the released guide's own fill.sh prints them over the translation 7c8ca919098f01e2… (all of the seat's roots in one cut). By AI agents, Wed Nov 11 2026. No macro, syntax, notation, axiom, sorry.
-/
import Derived.Test.Qxb6601002aChecked
import GoSem.Claim
import GoSem.ClaimJoined
import GoSem.ClaimMapViews
import Derived.JoinedTies
import Derived.KernelRfl
namespace Go.Proofs.Qxb6601002a
/- THE CELL 'sum', in the pinned program and in every row, IS THE sha256 OF THE DUMP (.gsa) THAT Qxb6601002aProg.lean LOADS. Nothing in Lean hashes anything: it is a label: what it is worth is what the hold of that sum in a sandbox is worth. -/
noncomputable def Try.pinned : Pinned := { name := "qxb6601002a", sum := "7c8ca919098f01e2ca53bb0b61033197c1d0c006c8778a3af83d126ef5e3d002", checked := Try.checked }
namespace Rows
def none {H : Type} : Left H := { results := [], args := [] }

/-- 'zzlaws_root_b1.FnValueEndMatchesJSONGrammar': WHATEVER THE INPUT: true; the input reads as it did. -/
def fnValueEndMatchesJSONGrammarSpec : ChangeSpec := { name := "fnValueEndMatchesJSONGrammar", fn := fun _ => fun
  | [d1, d2] => { results := [.lit (.bool true)], args := [d1, d2] }
  | _ => none }
def fnValueEndMatchesJSONGrammarRow : OpenClaim := { program := "qxb6601002a", sum := "7c8ca919098f01e2ca53bb0b61033197c1d0c006c8778a3af83d126ef5e3d002", func := "example.com/snapsieve/snapsieve/zzlaws_root_b1.FnValueEndMatchesJSONGrammar", spec := "fnValueEndMatchesJSONGrammar", inPlace := ["internal/bytealg.IndexByteString"], recurses := true, apart := false }
def FnValueEndMatchesJSONGrammarSaid : Prop := fnValueEndMatchesJSONGrammarRow.holds Try.pinned (OpenSpec.ofChange fnValueEndMatchesJSONGrammarSpec)

/-- ITS FALSE NEIGHBOUR: 'it returns false'. Refute it at one input. -/
def fnValueEndMatchesJSONGrammarWrong : ChangeSpec := { name := "fnValueEndMatchesJSONGrammar", fn := fun _ => fun
  | [d1, d2] => { results := [.lit (.bool false)], args := [d1, d2] }
  | _ => none }
def FnValueEndMatchesJSONGrammarWrongFalsely : Prop := fnValueEndMatchesJSONGrammarRow.holds Try.pinned (OpenSpec.ofChange fnValueEndMatchesJSONGrammarWrong)

/-- 'zzlaws_root_b1.FnHex4ReadsFourHexDigits': WHATEVER THE INPUT: true; the input reads as it did. -/
def fnHex4ReadsFourHexDigitsSpec : ChangeSpec := { name := "fnHex4ReadsFourHexDigits", fn := fun _ => fun
  | [d] => { results := [.lit (.bool true)], args := [d] }
  | _ => none }
def fnHex4ReadsFourHexDigitsRow : OpenClaim := { program := "qxb6601002a", sum := "7c8ca919098f01e2ca53bb0b61033197c1d0c006c8778a3af83d126ef5e3d002", func := "example.com/snapsieve/snapsieve/zzlaws_root_b1.FnHex4ReadsFourHexDigits", spec := "fnHex4ReadsFourHexDigits", apart := false }
def FnHex4ReadsFourHexDigitsSaid : Prop := fnHex4ReadsFourHexDigitsRow.holds Try.pinned (OpenSpec.ofChange fnHex4ReadsFourHexDigitsSpec)

/-- ITS FALSE NEIGHBOUR: 'it returns false'. Refute it at one input. -/
def fnHex4ReadsFourHexDigitsWrong : ChangeSpec := { name := "fnHex4ReadsFourHexDigits", fn := fun _ => fun
  | [d] => { results := [.lit (.bool false)], args := [d] }
  | _ => none }
def FnHex4ReadsFourHexDigitsWrongFalsely : Prop := fnHex4ReadsFourHexDigitsRow.holds Try.pinned (OpenSpec.ofChange fnHex4ReadsFourHexDigitsWrong)

/-- 'zzlaws_root_b1.FnHex4InvertsFourDigitSpelling': WHATEVER THE INPUT: true; the input reads as it did. -/
def fnHex4InvertsFourDigitSpellingSpec : ChangeSpec := { name := "fnHex4InvertsFourDigitSpelling", fn := fun _ => fun
  | [d1, d2, d3] => { results := [.lit (.bool true)], args := [d1, d2, d3] }
  | _ => none }
def fnHex4InvertsFourDigitSpellingRow : OpenClaim := { program := "qxb6601002a", sum := "7c8ca919098f01e2ca53bb0b61033197c1d0c006c8778a3af83d126ef5e3d002", func := "example.com/snapsieve/snapsieve/zzlaws_root_b1.FnHex4InvertsFourDigitSpelling", spec := "fnHex4InvertsFourDigitSpelling", apart := false }
def FnHex4InvertsFourDigitSpellingSaid : Prop := fnHex4InvertsFourDigitSpellingRow.holds Try.pinned (OpenSpec.ofChange fnHex4InvertsFourDigitSpellingSpec)

/-- ITS FALSE NEIGHBOUR: 'it returns false'. Refute it at one input. -/
def fnHex4InvertsFourDigitSpellingWrong : ChangeSpec := { name := "fnHex4InvertsFourDigitSpelling", fn := fun _ => fun
  | [d1, d2, d3] => { results := [.lit (.bool false)], args := [d1, d2, d3] }
  | _ => none }
def FnHex4InvertsFourDigitSpellingWrongFalsely : Prop := fnHex4InvertsFourDigitSpellingRow.holds Try.pinned (OpenSpec.ofChange fnHex4InvertsFourDigitSpellingWrong)

/-- 'zzlaws_root_b1.FnJSONLineValueOneCellPerKey': WHATEVER THE INPUT: true; the input reads as it did. -/
def fnJSONLineValueOneCellPerKeySpec : ChangeSpec := { name := "fnJSONLineValueOneCellPerKey", fn := fun _ => fun
  | [d1, d2] => { results := [.lit (.bool true)], args := [d1, d2] }
  | _ => none }
def fnJSONLineValueOneCellPerKeyRow : OpenClaim := { program := "qxb6601002a", sum := "7c8ca919098f01e2ca53bb0b61033197c1d0c006c8778a3af83d126ef5e3d002", func := "example.com/snapsieve/snapsieve/zzlaws_root_b1.FnJSONLineValueOneCellPerKey", spec := "fnJSONLineValueOneCellPerKey", apart := false }
def FnJSONLineValueOneCellPerKeySaid : Prop := fnJSONLineValueOneCellPerKeyRow.holds Try.pinned (OpenSpec.ofChange fnJSONLineValueOneCellPerKeySpec)

/-- ITS FALSE NEIGHBOUR: 'it returns false'. Refute it at one input. -/
def fnJSONLineValueOneCellPerKeyWrong : ChangeSpec := { name := "fnJSONLineValueOneCellPerKey", fn := fun _ => fun
  | [d1, d2] => { results := [.lit (.bool false)], args := [d1, d2] }
  | _ => none }
def FnJSONLineValueOneCellPerKeyWrongFalsely : Prop := fnJSONLineValueOneCellPerKeyRow.holds Try.pinned (OpenSpec.ofChange fnJSONLineValueOneCellPerKeyWrong)

end Rows
end Go.Proofs.Qxb6601002a
