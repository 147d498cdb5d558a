/-
  No cell of these rows narrows 'for every input' (looked for: loops, veiled, ifaces, maps, wideKeys, modest, calm, conditions, laid).
  DERIVED. THE GIVEN ROWS OF THIS SEAT. 4 by the template 'for every input the law returns true; each argument reads behind the call as it read before'; 0 by the template 'total and deterministic' (their statements: Qxb6605258aTotals.lean).
  GIVEN WITH THE SEED: the statements are not yours to turn. If you find one false, say at which input.
  Laid BY PROGRAM, IN A SANDBOX (cutbox-rows.mjs): the forced cells as the released guide's own fill.sh prints them over the translation b87ba6c9c72e1ba6… (all of the seat's roots in one cut). By AI agents, Wed Nov 11 2026. No macro, syntax, notation, axiom, sorry.
-/
import Derived.Test.Qxb6605258aChecked
import GoSem.Claim
import GoSem.ClaimJoined
import GoSem.ClaimMapViews
import Derived.JoinedTies
import Derived.KernelRfl
namespace Go.Proofs.Qxb6605258a
/- THE CELL 'sum', in the pinned program and in every row, IS THE sha256 OF THE DUMP (.gsa) THAT Qxb6605258aProg.lean LOADS. Nothing in Lean hashes anything: it is a label: what it is worth is what the hold of that sum in a sandbox is worth. -/
noncomputable def Try.pinned : Pinned := { name := "qxb6605258a", sum := "b87ba6c9c72e1ba6022cb422e26bffbd4208b04968f43779f39f0bb1123c6a04", checked := Try.checked }
namespace Rows
def none {H : Type} : Left H := { results := [], args := [] }

/-- 'zzlaws_internal_event_b1.FnEscapeLengthMatchesLongestEscapePrefix': WHATEVER THE INPUT: true; the input reads as it did. -/
def fnEscapeLengthMatchesLongestEscapePrefixSpec : ChangeSpec := { name := "fnEscapeLengthMatchesLongestEscapePrefix", fn := fun _ => fun
  | [d] => { results := [.lit (.bool true)], args := [d] }
  | _ => none }
def fnEscapeLengthMatchesLongestEscapePrefixRow : OpenClaim := { program := "qxb6605258a", sum := "b87ba6c9c72e1ba6022cb422e26bffbd4208b04968f43779f39f0bb1123c6a04", func := "example.com/ledgerline/ledgerline/zzlaws_internal_event_b1.FnEscapeLengthMatchesLongestEscapePrefix", spec := "fnEscapeLengthMatchesLongestEscapePrefix", inPlace := ["internal/bytealg.IndexByteString"], apart := false }
def FnEscapeLengthMatchesLongestEscapePrefixSaid : Prop := fnEscapeLengthMatchesLongestEscapePrefixRow.holds Try.pinned (OpenSpec.ofChange fnEscapeLengthMatchesLongestEscapePrefixSpec)

/-- ITS FALSE NEIGHBOUR: 'it returns false'. Refute it at one input. -/
def fnEscapeLengthMatchesLongestEscapePrefixWrong : ChangeSpec := { name := "fnEscapeLengthMatchesLongestEscapePrefix", fn := fun _ => fun
  | [d] => { results := [.lit (.bool false)], args := [d] }
  | _ => none }
def FnEscapeLengthMatchesLongestEscapePrefixWrongFalsely : Prop := fnEscapeLengthMatchesLongestEscapePrefixRow.holds Try.pinned (OpenSpec.ofChange fnEscapeLengthMatchesLongestEscapePrefixWrong)

/-- 'zzlaws_internal_event_b1.FnEscapeLengthUnicodeEscapeAndPrefixes': WHATEVER THE INPUT: true; the input reads as it did. -/
def fnEscapeLengthUnicodeEscapeAndPrefixesSpec : ChangeSpec := { name := "fnEscapeLengthUnicodeEscapeAndPrefixes", fn := fun _ => fun
  | [d1, d2, d3] => { results := [.lit (.bool true)], args := [d1, d2, d3] }
  | _ => none }
def fnEscapeLengthUnicodeEscapeAndPrefixesRow : OpenClaim := { program := "qxb6605258a", sum := "b87ba6c9c72e1ba6022cb422e26bffbd4208b04968f43779f39f0bb1123c6a04", func := "example.com/ledgerline/ledgerline/zzlaws_internal_event_b1.FnEscapeLengthUnicodeEscapeAndPrefixes", spec := "fnEscapeLengthUnicodeEscapeAndPrefixes", inPlace := ["internal/bytealg.IndexByteString"], apart := false }
def FnEscapeLengthUnicodeEscapeAndPrefixesSaid : Prop := fnEscapeLengthUnicodeEscapeAndPrefixesRow.holds Try.pinned (OpenSpec.ofChange fnEscapeLengthUnicodeEscapeAndPrefixesSpec)

/-- ITS FALSE NEIGHBOUR: 'it returns false'. Refute it at one input. -/
def fnEscapeLengthUnicodeEscapeAndPrefixesWrong : ChangeSpec := { name := "fnEscapeLengthUnicodeEscapeAndPrefixes", fn := fun _ => fun
  | [d1, d2, d3] => { results := [.lit (.bool false)], args := [d1, d2, d3] }
  | _ => none }
def FnEscapeLengthUnicodeEscapeAndPrefixesWrongFalsely : Prop := fnEscapeLengthUnicodeEscapeAndPrefixesRow.holds Try.pinned (OpenSpec.ofChange fnEscapeLengthUnicodeEscapeAndPrefixesWrong)

/-- 'zzlaws_internal_event_b1.FnTimeDigitsMatchesBackwardParse': WHATEVER THE INPUT: true; the input reads as it did. -/
def fnTimeDigitsMatchesBackwardParseSpec : ChangeSpec := { name := "fnTimeDigitsMatchesBackwardParse", fn := fun _ => fun
  | [d] => { results := [.lit (.bool true)], args := [d] }
  | _ => none }
def fnTimeDigitsMatchesBackwardParseRow : OpenClaim := { program := "qxb6605258a", sum := "b87ba6c9c72e1ba6022cb422e26bffbd4208b04968f43779f39f0bb1123c6a04", func := "example.com/ledgerline/ledgerline/zzlaws_internal_event_b1.FnTimeDigitsMatchesBackwardParse", spec := "fnTimeDigitsMatchesBackwardParse", apart := false }
def FnTimeDigitsMatchesBackwardParseSaid : Prop := fnTimeDigitsMatchesBackwardParseRow.holds Try.pinned (OpenSpec.ofChange fnTimeDigitsMatchesBackwardParseSpec)

/-- ITS FALSE NEIGHBOUR: 'it returns false'. Refute it at one input. -/
def fnTimeDigitsMatchesBackwardParseWrong : ChangeSpec := { name := "fnTimeDigitsMatchesBackwardParse", fn := fun _ => fun
  | [d] => { results := [.lit (.bool false)], args := [d] }
  | _ => none }
def FnTimeDigitsMatchesBackwardParseWrongFalsely : Prop := fnTimeDigitsMatchesBackwardParseRow.holds Try.pinned (OpenSpec.ofChange fnTimeDigitsMatchesBackwardParseWrong)

/-- 'zzlaws_internal_event_b1.FnTimeDigitsReadsRenderedFields': WHATEVER THE INPUT: true; the input reads as it did. -/
def fnTimeDigitsReadsRenderedFieldsSpec : ChangeSpec := { name := "fnTimeDigitsReadsRenderedFields", fn := fun _ => fun
  | [d1, d2, d3, d4, d5, d6, d7, d8, d9, d10, d11, d12] => { results := [.lit (.bool true)], args := [d1, d2, d3, d4, d5, d6, d7, d8, d9, d10, d11, d12] }
  | _ => none }
def fnTimeDigitsReadsRenderedFieldsRow : OpenClaim := { program := "qxb6605258a", sum := "b87ba6c9c72e1ba6022cb422e26bffbd4208b04968f43779f39f0bb1123c6a04", func := "example.com/ledgerline/ledgerline/zzlaws_internal_event_b1.FnTimeDigitsReadsRenderedFields", spec := "fnTimeDigitsReadsRenderedFields", apart := false }
def FnTimeDigitsReadsRenderedFieldsSaid : Prop := fnTimeDigitsReadsRenderedFieldsRow.holds Try.pinned (OpenSpec.ofChange fnTimeDigitsReadsRenderedFieldsSpec)

/-- ITS FALSE NEIGHBOUR: 'it returns false'. Refute it at one input. -/
def fnTimeDigitsReadsRenderedFieldsWrong : ChangeSpec := { name := "fnTimeDigitsReadsRenderedFields", fn := fun _ => fun
  | [d1, d2, d3, d4, d5, d6, d7, d8, d9, d10, d11, d12] => { results := [.lit (.bool false)], args := [d1, d2, d3, d4, d5, d6, d7, d8, d9, d10, d11, d12] }
  | _ => none }
def FnTimeDigitsReadsRenderedFieldsWrongFalsely : Prop := fnTimeDigitsReadsRenderedFieldsRow.holds Try.pinned (OpenSpec.ofChange fnTimeDigitsReadsRenderedFieldsWrong)

end Rows
end Go.Proofs.Qxb6605258a
