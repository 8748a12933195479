/-
  No cell of these rows narrows 'for every input' (looked for: loops, veiled, ifaces, maps, wideKeys, modest, calm, conditions, laid).
  DERIVED. THE GIVEN ROWS OF THIS SEAT. 4 by the template 'for every input the law returns true; each argument reads behind the call as it read before'; 0 by the template 'total and deterministic' (their statements: Qxb6604181aTotals.lean).
  GIVEN WITH THE SEED: the statements are not yours to turn. If you find one false, say at which input.
  Laid BY PROGRAM, IN A SANDBOX (cutbox-rows.mjs): the forced cells as the released guide's own fill.sh prints them over the translation 1cfc7e49776453c1… (all of the seat's roots in one cut). By AI agents, Wed Nov 11 2026. No macro, syntax, notation, axiom, sorry.
-/
import Derived.Test.Qxb6604181aChecked
import GoSem.Claim
import GoSem.ClaimJoined
import GoSem.ClaimMapViews
import Derived.JoinedTies
import Derived.KernelRfl
namespace Go.Proofs.Qxb6604181a
/- THE CELL 'sum', in the pinned program and in every row, IS THE sha256 OF THE DUMP (.gsa) THAT Qxb6604181aProg.lean LOADS. Nothing in Lean hashes anything: it is a label: what it is worth is what the hold of that sum in a sandbox is worth. -/
noncomputable def Try.pinned : Pinned := { name := "qxb6604181a", sum := "1cfc7e49776453c1c750b02a96972da4b85e66e5a6e4c88bae823aaf6fcad2e4", checked := Try.checked }
namespace Rows
def none {H : Type} : Left H := { results := [], args := [] }

/-- 'zzlaws_pkg_jsonobj_b1.FnCursorNumberMatchesAutomaton': WHATEVER THE INPUT: true; the input reads as it did. -/
def fnCursorNumberMatchesAutomatonSpec : ChangeSpec := { name := "fnCursorNumberMatchesAutomaton", fn := fun _ => fun
  | [d1, d2] => { results := [.lit (.bool true)], args := [d1, d2] }
  | _ => none }
def fnCursorNumberMatchesAutomatonRow : OpenClaim := { program := "qxb6604181a", sum := "1cfc7e49776453c1c750b02a96972da4b85e66e5a6e4c88bae823aaf6fcad2e4", func := "example.com/hubwire/hubwire/zzlaws_pkg_jsonobj_b1.FnCursorNumberMatchesAutomaton", spec := "fnCursorNumberMatchesAutomaton", apart := false }
def FnCursorNumberMatchesAutomatonSaid : Prop := fnCursorNumberMatchesAutomatonRow.holds Try.pinned (OpenSpec.ofChange fnCursorNumberMatchesAutomatonSpec)

/-- ITS FALSE NEIGHBOUR: 'it returns false'. Refute it at one input. -/
def fnCursorNumberMatchesAutomatonWrong : ChangeSpec := { name := "fnCursorNumberMatchesAutomaton", fn := fun _ => fun
  | [d1, d2] => { results := [.lit (.bool false)], args := [d1, d2] }
  | _ => none }
def FnCursorNumberMatchesAutomatonWrongFalsely : Prop := fnCursorNumberMatchesAutomatonRow.holds Try.pinned (OpenSpec.ofChange fnCursorNumberMatchesAutomatonWrong)

/-- 'zzlaws_pkg_jsonobj_b1.FnEscapedUnitMatchesHexEncoding': WHATEVER THE INPUT: true; the input reads as it did. -/
def fnEscapedUnitMatchesHexEncodingSpec : ChangeSpec := { name := "fnEscapedUnitMatchesHexEncoding", fn := fun _ => fun
  | [d1, d2] => { results := [.lit (.bool true)], args := [d1, d2] }
  | _ => none }
def fnEscapedUnitMatchesHexEncodingRow : OpenClaim := { program := "qxb6604181a", sum := "1cfc7e49776453c1c750b02a96972da4b85e66e5a6e4c88bae823aaf6fcad2e4", func := "example.com/hubwire/hubwire/zzlaws_pkg_jsonobj_b1.FnEscapedUnitMatchesHexEncoding", spec := "fnEscapedUnitMatchesHexEncoding", apart := false }
def FnEscapedUnitMatchesHexEncodingSaid : Prop := fnEscapedUnitMatchesHexEncodingRow.holds Try.pinned (OpenSpec.ofChange fnEscapedUnitMatchesHexEncodingSpec)

/-- ITS FALSE NEIGHBOUR: 'it returns false'. Refute it at one input. -/
def fnEscapedUnitMatchesHexEncodingWrong : ChangeSpec := { name := "fnEscapedUnitMatchesHexEncoding", fn := fun _ => fun
  | [d1, d2] => { results := [.lit (.bool false)], args := [d1, d2] }
  | _ => none }
def FnEscapedUnitMatchesHexEncodingWrongFalsely : Prop := fnEscapedUnitMatchesHexEncodingRow.holds Try.pinned (OpenSpec.ofChange fnEscapedUnitMatchesHexEncodingWrong)

/-- 'zzlaws_pkg_jsonobj_b1.FnEscapedUnitRoundTrip': WHATEVER THE INPUT: true; the input reads as it did. -/
def fnEscapedUnitRoundTripSpec : ChangeSpec := { name := "fnEscapedUnitRoundTrip", fn := fun _ => fun
  | [d1, d2, d3, d4] => { results := [.lit (.bool true)], args := [d1, d2, d3, d4] }
  | _ => none }
def fnEscapedUnitRoundTripRow : OpenClaim := { program := "qxb6604181a", sum := "1cfc7e49776453c1c750b02a96972da4b85e66e5a6e4c88bae823aaf6fcad2e4", func := "example.com/hubwire/hubwire/zzlaws_pkg_jsonobj_b1.FnEscapedUnitRoundTrip", spec := "fnEscapedUnitRoundTrip", apart := false }
def FnEscapedUnitRoundTripSaid : Prop := fnEscapedUnitRoundTripRow.holds Try.pinned (OpenSpec.ofChange fnEscapedUnitRoundTripSpec)

/-- ITS FALSE NEIGHBOUR: 'it returns false'. Refute it at one input. -/
def fnEscapedUnitRoundTripWrong : ChangeSpec := { name := "fnEscapedUnitRoundTrip", fn := fun _ => fun
  | [d1, d2, d3, d4] => { results := [.lit (.bool false)], args := [d1, d2, d3, d4] }
  | _ => none }
def FnEscapedUnitRoundTripWrongFalsely : Prop := fnEscapedUnitRoundTripRow.holds Try.pinned (OpenSpec.ofChange fnEscapedUnitRoundTripWrong)

/-- 'zzlaws_pkg_jsonobj_b1.FnTimesPowerOfTwoByRepeatedDoubling': WHATEVER THE INPUT: true; the input reads as it did. -/
def fnTimesPowerOfTwoByRepeatedDoublingSpec : ChangeSpec := { name := "fnTimesPowerOfTwoByRepeatedDoubling", fn := fun _ => fun
  | [d1, d2, d3] => { results := [.lit (.bool true)], args := [d1, d2, d3] }
  | _ => none }
def fnTimesPowerOfTwoByRepeatedDoublingRow : OpenClaim := { program := "qxb6604181a", sum := "1cfc7e49776453c1c750b02a96972da4b85e66e5a6e4c88bae823aaf6fcad2e4", func := "example.com/hubwire/hubwire/zzlaws_pkg_jsonobj_b1.FnTimesPowerOfTwoByRepeatedDoubling", spec := "fnTimesPowerOfTwoByRepeatedDoubling", apart := false }
def FnTimesPowerOfTwoByRepeatedDoublingSaid : Prop := fnTimesPowerOfTwoByRepeatedDoublingRow.holds Try.pinned (OpenSpec.ofChange fnTimesPowerOfTwoByRepeatedDoublingSpec)

/-- ITS FALSE NEIGHBOUR: 'it returns false'. Refute it at one input. -/
def fnTimesPowerOfTwoByRepeatedDoublingWrong : ChangeSpec := { name := "fnTimesPowerOfTwoByRepeatedDoubling", fn := fun _ => fun
  | [d1, d2, d3] => { results := [.lit (.bool false)], args := [d1, d2, d3] }
  | _ => none }
def FnTimesPowerOfTwoByRepeatedDoublingWrongFalsely : Prop := fnTimesPowerOfTwoByRepeatedDoublingRow.holds Try.pinned (OpenSpec.ofChange fnTimesPowerOfTwoByRepeatedDoublingWrong)

end Rows
end Go.Proofs.Qxb6604181a
