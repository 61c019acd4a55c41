/-
  No cell of these rows narrows 'for every input' (looked for: loops, veiled, ifaces, maps, wideKeys, modest, calm, conditions, laid).
  DERIVED. THE GIVEN ROWS OF THIS SEAT. 6 by the template 'for every input the law returns true; each argument reads behind the call as it read before'; 0 by the template 'total and deterministic' (their statements: Qxb6600009aTotals.lean).
  GIVEN WITH THE SEED: the statements are not yours to turn. If you find one false, say at which input.
  Laid BY PROGRAM, IN A SANDBOX (cutbox-rows.mjs): the forced cells as the released guide's own fill.sh prints them over the translation 39be4abbeba0f6ac… (all of the seat's roots in one cut). By AI agents, Wed Nov 11 2026. No macro, syntax, notation, axiom, sorry.
-/
import Derived.Test.Qxb6600009aChecked
import GoSem.Claim
import GoSem.ClaimJoined
import GoSem.ClaimMapViews
import Derived.JoinedTies
import Derived.KernelRfl
namespace Go.Proofs.Qxb6600009a
/- THE CELL 'sum', in the pinned program and in every row, IS THE sha256 OF THE DUMP (.gsa) THAT Qxb6600009aProg.lean LOADS. Nothing in Lean hashes anything: it is a label: what it is worth is what the hold of that sum in a sandbox is worth. -/
noncomputable def Try.pinned : Pinned := { name := "qxb6600009a", sum := "39be4abbeba0f6ac1566da9a616476fd0a9798412bcb736971283fbcba0758d2", checked := Try.checked }
namespace Rows
def none {H : Type} : Left H := { results := [], args := [] }

/-- 'zzlaws_pkg_datafile_b1.FnValueMatchesRecognizer': WHATEVER THE INPUT: true; the input reads as it did. -/
def fnValueMatchesRecognizerSpec : ChangeSpec := { name := "fnValueMatchesRecognizer", fn := fun _ => fun
  | [d1, d2] => { results := [.lit (.bool true)], args := [d1, d2] }
  | _ => none }
def fnValueMatchesRecognizerRow : OpenClaim := { program := "qxb6600009a", sum := "39be4abbeba0f6ac1566da9a616476fd0a9798412bcb736971283fbcba0758d2", func := "example.com/skewline/skewline/zzlaws_pkg_datafile_b1.FnValueMatchesRecognizer", spec := "fnValueMatchesRecognizer", recurses := true, apart := false }
def FnValueMatchesRecognizerSaid : Prop := fnValueMatchesRecognizerRow.holds Try.pinned (OpenSpec.ofChange fnValueMatchesRecognizerSpec)

/-- ITS FALSE NEIGHBOUR: 'it returns false'. Refute it at one input. -/
def fnValueMatchesRecognizerWrong : ChangeSpec := { name := "fnValueMatchesRecognizer", fn := fun _ => fun
  | [d1, d2] => { results := [.lit (.bool false)], args := [d1, d2] }
  | _ => none }
def FnValueMatchesRecognizerWrongFalsely : Prop := fnValueMatchesRecognizerRow.holds Try.pinned (OpenSpec.ofChange fnValueMatchesRecognizerWrong)

/-- 'zzlaws_pkg_datafile_b1.FnValueIgnoresLeadingSpace': WHATEVER THE INPUT: true; the input reads as it did. -/
def fnValueIgnoresLeadingSpaceSpec : ChangeSpec := { name := "fnValueIgnoresLeadingSpace", fn := fun _ => fun
  | [d1, d2, d3] => { results := [.lit (.bool true)], args := [d1, d2, d3] }
  | _ => none }
def fnValueIgnoresLeadingSpaceRow : OpenClaim := { program := "qxb6600009a", sum := "39be4abbeba0f6ac1566da9a616476fd0a9798412bcb736971283fbcba0758d2", func := "example.com/skewline/skewline/zzlaws_pkg_datafile_b1.FnValueIgnoresLeadingSpace", spec := "fnValueIgnoresLeadingSpace", recurses := true, apart := false }
def FnValueIgnoresLeadingSpaceSaid : Prop := fnValueIgnoresLeadingSpaceRow.holds Try.pinned (OpenSpec.ofChange fnValueIgnoresLeadingSpaceSpec)

/-- ITS FALSE NEIGHBOUR: 'it returns false'. Refute it at one input. -/
def fnValueIgnoresLeadingSpaceWrong : ChangeSpec := { name := "fnValueIgnoresLeadingSpace", fn := fun _ => fun
  | [d1, d2, d3] => { results := [.lit (.bool false)], args := [d1, d2, d3] }
  | _ => none }
def FnValueIgnoresLeadingSpaceWrongFalsely : Prop := fnValueIgnoresLeadingSpaceRow.holds Try.pinned (OpenSpec.ofChange fnValueIgnoresLeadingSpaceWrong)

/-- 'zzlaws_pkg_datafile_b1.FnSkipStringEscapedBodyRoundTrip': WHATEVER THE INPUT: true; the input reads as it did. -/
def fnSkipStringEscapedBodyRoundTripSpec : ChangeSpec := { name := "fnSkipStringEscapedBodyRoundTrip", fn := fun _ => fun
  | [d1, d2, d3] => { results := [.lit (.bool true)], args := [d1, d2, d3] }
  | _ => none }
def fnSkipStringEscapedBodyRoundTripRow : OpenClaim := { program := "qxb6600009a", sum := "39be4abbeba0f6ac1566da9a616476fd0a9798412bcb736971283fbcba0758d2", func := "example.com/skewline/skewline/zzlaws_pkg_datafile_b1.FnSkipStringEscapedBodyRoundTrip", spec := "fnSkipStringEscapedBodyRoundTrip", apart := false }
def FnSkipStringEscapedBodyRoundTripSaid : Prop := fnSkipStringEscapedBodyRoundTripRow.holds Try.pinned (OpenSpec.ofChange fnSkipStringEscapedBodyRoundTripSpec)

/-- ITS FALSE NEIGHBOUR: 'it returns false'. Refute it at one input. -/
def fnSkipStringEscapedBodyRoundTripWrong : ChangeSpec := { name := "fnSkipStringEscapedBodyRoundTrip", fn := fun _ => fun
  | [d1, d2, d3] => { results := [.lit (.bool false)], args := [d1, d2, d3] }
  | _ => none }
def FnSkipStringEscapedBodyRoundTripWrongFalsely : Prop := fnSkipStringEscapedBodyRoundTripRow.holds Try.pinned (OpenSpec.ofChange fnSkipStringEscapedBodyRoundTripWrong)

/-- 'zzlaws_pkg_datafile_b1.FnSkipStringStopsAtFirstUnescapedQuote': WHATEVER THE INPUT: true; the input reads as it did. -/
def fnSkipStringStopsAtFirstUnescapedQuoteSpec : ChangeSpec := { name := "fnSkipStringStopsAtFirstUnescapedQuote", fn := fun _ => fun
  | [d1, d2] => { results := [.lit (.bool true)], args := [d1, d2] }
  | _ => none }
def fnSkipStringStopsAtFirstUnescapedQuoteRow : OpenClaim := { program := "qxb6600009a", sum := "39be4abbeba0f6ac1566da9a616476fd0a9798412bcb736971283fbcba0758d2", func := "example.com/skewline/skewline/zzlaws_pkg_datafile_b1.FnSkipStringStopsAtFirstUnescapedQuote", spec := "fnSkipStringStopsAtFirstUnescapedQuote", apart := false }
def FnSkipStringStopsAtFirstUnescapedQuoteSaid : Prop := fnSkipStringStopsAtFirstUnescapedQuoteRow.holds Try.pinned (OpenSpec.ofChange fnSkipStringStopsAtFirstUnescapedQuoteSpec)

/-- ITS FALSE NEIGHBOUR: 'it returns false'. Refute it at one input. -/
def fnSkipStringStopsAtFirstUnescapedQuoteWrong : ChangeSpec := { name := "fnSkipStringStopsAtFirstUnescapedQuote", fn := fun _ => fun
  | [d1, d2] => { results := [.lit (.bool false)], args := [d1, d2] }
  | _ => none }
def FnSkipStringStopsAtFirstUnescapedQuoteWrongFalsely : Prop := fnSkipStringStopsAtFirstUnescapedQuoteRow.holds Try.pinned (OpenSpec.ofChange fnSkipStringStopsAtFirstUnescapedQuoteWrong)

/-- 'zzlaws_pkg_datafile_b1.FnSkipNestedMatchesRecognizer': WHATEVER THE INPUT: true; the input reads as it did. -/
def fnSkipNestedMatchesRecognizerSpec : ChangeSpec := { name := "fnSkipNestedMatchesRecognizer", fn := fun _ => fun
  | [d1, d2] => { results := [.lit (.bool true)], args := [d1, d2] }
  | _ => none }
def fnSkipNestedMatchesRecognizerRow : OpenClaim := { program := "qxb6600009a", sum := "39be4abbeba0f6ac1566da9a616476fd0a9798412bcb736971283fbcba0758d2", func := "example.com/skewline/skewline/zzlaws_pkg_datafile_b1.FnSkipNestedMatchesRecognizer", spec := "fnSkipNestedMatchesRecognizer", recurses := true, apart := false }
def FnSkipNestedMatchesRecognizerSaid : Prop := fnSkipNestedMatchesRecognizerRow.holds Try.pinned (OpenSpec.ofChange fnSkipNestedMatchesRecognizerSpec)

/-- ITS FALSE NEIGHBOUR: 'it returns false'. Refute it at one input. -/
def fnSkipNestedMatchesRecognizerWrong : ChangeSpec := { name := "fnSkipNestedMatchesRecognizer", fn := fun _ => fun
  | [d1, d2] => { results := [.lit (.bool false)], args := [d1, d2] }
  | _ => none }
def FnSkipNestedMatchesRecognizerWrongFalsely : Prop := fnSkipNestedMatchesRecognizerRow.holds Try.pinned (OpenSpec.ofChange fnSkipNestedMatchesRecognizerWrong)

/-- 'zzlaws_pkg_datafile_b1.FnSkipNestedStaysInReach': WHATEVER THE INPUT: true; the input reads as it did. -/
def fnSkipNestedStaysInReachSpec : ChangeSpec := { name := "fnSkipNestedStaysInReach", fn := fun _ => fun
  | [d1, d2] => { results := [.lit (.bool true)], args := [d1, d2] }
  | _ => none }
def fnSkipNestedStaysInReachRow : OpenClaim := { program := "qxb6600009a", sum := "39be4abbeba0f6ac1566da9a616476fd0a9798412bcb736971283fbcba0758d2", func := "example.com/skewline/skewline/zzlaws_pkg_datafile_b1.FnSkipNestedStaysInReach", spec := "fnSkipNestedStaysInReach", apart := false }
def FnSkipNestedStaysInReachSaid : Prop := fnSkipNestedStaysInReachRow.holds Try.pinned (OpenSpec.ofChange fnSkipNestedStaysInReachSpec)

/-- ITS FALSE NEIGHBOUR: 'it returns false'. Refute it at one input. -/
def fnSkipNestedStaysInReachWrong : ChangeSpec := { name := "fnSkipNestedStaysInReach", fn := fun _ => fun
  | [d1, d2] => { results := [.lit (.bool false)], args := [d1, d2] }
  | _ => none }
def FnSkipNestedStaysInReachWrongFalsely : Prop := fnSkipNestedStaysInReachRow.holds Try.pinned (OpenSpec.ofChange fnSkipNestedStaysInReachWrong)

end Rows
end Go.Proofs.Qxb6600009a
