/-
  No cell of these rows narrows 'for every input' (looked for: loops, veiled, ifaces, maps, wideKeys, modest, calm, conditions, laid).
  DERIVED. THE GIVEN ROWS OF THIS SEAT. 5 by the template 'for every input the law returns true; each argument reads behind the call as it read before'; 0 by the template 'total and deterministic' (their statements: Qxb6604204aTotals.lean).
  GIVEN WITH THE SEED: the statements are not yours to turn. If you find one false, say at which input.
  Laid BY PROGRAM, IN A SANDBOX (cutbox-rows.mjs): the forced cells as the released guide's own fill.sh prints them over the translation a5b457f6efc8846c… (all of the seat's roots in one cut). By AI agents, Wed Nov 11 2026. No macro, syntax, notation, axiom, sorry.
-/
import Derived.Test.Qxb6604204aChecked
import GoSem.Claim
import GoSem.ClaimJoined
import GoSem.ClaimMapViews
import Derived.JoinedTies
import Derived.KernelRfl
namespace Go.Proofs.Qxb6604204a
/- THE CELL 'sum', in the pinned program and in every row, IS THE sha256 OF THE DUMP (.gsa) THAT Qxb6604204aProg.lean LOADS. Nothing in Lean hashes anything: it is a label: what it is worth is what the hold of that sum in a sandbox is worth. -/
noncomputable def Try.pinned : Pinned := { name := "qxb6604204a", sum := "a5b457f6efc8846c2ba230f3faef73693cca30d27b5aad658fc21b06324c8932", checked := Try.checked }
namespace Rows
def none {H : Type} : Left H := { results := [], args := [] }

/-- 'zzlaws_internal_exactjson_b1.FnClosingQuoteMatchesEscapeScanner': WHATEVER THE INPUT: true; the input reads as it did. -/
def fnClosingQuoteMatchesEscapeScannerSpec : ChangeSpec := { name := "fnClosingQuoteMatchesEscapeScanner", fn := fun _ => fun
  | [d] => { results := [.lit (.bool true)], args := [d] }
  | _ => none }
def fnClosingQuoteMatchesEscapeScannerRow : OpenClaim := { program := "qxb6604204a", sum := "a5b457f6efc8846c2ba230f3faef73693cca30d27b5aad658fc21b06324c8932", func := "example.com/plain-leash/plain-leash/zzlaws_internal_exactjson_b1.FnClosingQuoteMatchesEscapeScanner", spec := "fnClosingQuoteMatchesEscapeScanner", inPlace := ["internal/bytealg.IndexByte"], apart := false }
def FnClosingQuoteMatchesEscapeScannerSaid : Prop := fnClosingQuoteMatchesEscapeScannerRow.holds Try.pinned (OpenSpec.ofChange fnClosingQuoteMatchesEscapeScannerSpec)

/-- ITS FALSE NEIGHBOUR: 'it returns false'. Refute it at one input. -/
def fnClosingQuoteMatchesEscapeScannerWrong : ChangeSpec := { name := "fnClosingQuoteMatchesEscapeScanner", fn := fun _ => fun
  | [d] => { results := [.lit (.bool false)], args := [d] }
  | _ => none }
def FnClosingQuoteMatchesEscapeScannerWrongFalsely : Prop := fnClosingQuoteMatchesEscapeScannerRow.holds Try.pinned (OpenSpec.ofChange fnClosingQuoteMatchesEscapeScannerWrong)

/-- 'zzlaws_internal_exactjson_b1.FnClosingQuoteFindsTheEndOfAnEscapedText': WHATEVER THE INPUT: true; the input reads as it did. -/
def fnClosingQuoteFindsTheEndOfAnEscapedTextSpec : ChangeSpec := { name := "fnClosingQuoteFindsTheEndOfAnEscapedText", fn := fun _ => fun
  | [d1, d2] => { results := [.lit (.bool true)], args := [d1, d2] }
  | _ => none }
def fnClosingQuoteFindsTheEndOfAnEscapedTextRow : OpenClaim := { program := "qxb6604204a", sum := "a5b457f6efc8846c2ba230f3faef73693cca30d27b5aad658fc21b06324c8932", func := "example.com/plain-leash/plain-leash/zzlaws_internal_exactjson_b1.FnClosingQuoteFindsTheEndOfAnEscapedText", spec := "fnClosingQuoteFindsTheEndOfAnEscapedText", inPlace := ["internal/bytealg.IndexByte"], apart := false }
def FnClosingQuoteFindsTheEndOfAnEscapedTextSaid : Prop := fnClosingQuoteFindsTheEndOfAnEscapedTextRow.holds Try.pinned (OpenSpec.ofChange fnClosingQuoteFindsTheEndOfAnEscapedTextSpec)

/-- ITS FALSE NEIGHBOUR: 'it returns false'. Refute it at one input. -/
def fnClosingQuoteFindsTheEndOfAnEscapedTextWrong : ChangeSpec := { name := "fnClosingQuoteFindsTheEndOfAnEscapedText", fn := fun _ => fun
  | [d1, d2] => { results := [.lit (.bool false)], args := [d1, d2] }
  | _ => none }
def FnClosingQuoteFindsTheEndOfAnEscapedTextWrongFalsely : Prop := fnClosingQuoteFindsTheEndOfAnEscapedTextRow.holds Try.pinned (OpenSpec.ofChange fnClosingQuoteFindsTheEndOfAnEscapedTextWrong)

/-- 'zzlaws_internal_exactjson_b1.FnClosingQuoteIgnoresWhatFollows': WHATEVER THE INPUT: true; the input reads as it did. -/
def fnClosingQuoteIgnoresWhatFollowsSpec : ChangeSpec := { name := "fnClosingQuoteIgnoresWhatFollows", fn := fun _ => fun
  | [d1, d2] => { results := [.lit (.bool true)], args := [d1, d2] }
  | _ => none }
def fnClosingQuoteIgnoresWhatFollowsRow : OpenClaim := { program := "qxb6604204a", sum := "a5b457f6efc8846c2ba230f3faef73693cca30d27b5aad658fc21b06324c8932", func := "example.com/plain-leash/plain-leash/zzlaws_internal_exactjson_b1.FnClosingQuoteIgnoresWhatFollows", spec := "fnClosingQuoteIgnoresWhatFollows", inPlace := ["internal/bytealg.IndexByte"], apart := false }
def FnClosingQuoteIgnoresWhatFollowsSaid : Prop := fnClosingQuoteIgnoresWhatFollowsRow.holds Try.pinned (OpenSpec.ofChange fnClosingQuoteIgnoresWhatFollowsSpec)

/-- ITS FALSE NEIGHBOUR: 'it returns false'. Refute it at one input. -/
def fnClosingQuoteIgnoresWhatFollowsWrong : ChangeSpec := { name := "fnClosingQuoteIgnoresWhatFollows", fn := fun _ => fun
  | [d1, d2] => { results := [.lit (.bool false)], args := [d1, d2] }
  | _ => none }
def FnClosingQuoteIgnoresWhatFollowsWrongFalsely : Prop := fnClosingQuoteIgnoresWhatFollowsRow.holds Try.pinned (OpenSpec.ofChange fnClosingQuoteIgnoresWhatFollowsWrong)

/-- 'zzlaws_internal_exactjson_b1.FnValueEndMatchesAJSONParser': WHATEVER THE INPUT: true; the input reads as it did. -/
def fnValueEndMatchesAJSONParserSpec : ChangeSpec := { name := "fnValueEndMatchesAJSONParser", fn := fun _ => fun
  | [d1, d2] => { results := [.lit (.bool true)], args := [d1, d2] }
  | _ => none }
def fnValueEndMatchesAJSONParserRow : OpenClaim := { program := "qxb6604204a", sum := "a5b457f6efc8846c2ba230f3faef73693cca30d27b5aad658fc21b06324c8932", func := "example.com/plain-leash/plain-leash/zzlaws_internal_exactjson_b1.FnValueEndMatchesAJSONParser", spec := "fnValueEndMatchesAJSONParser", inPlace := ["internal/bytealg.IndexByte", "internal/bytealg.IndexByteString"], apart := false }
def FnValueEndMatchesAJSONParserSaid : Prop := fnValueEndMatchesAJSONParserRow.holds Try.pinned (OpenSpec.ofChange fnValueEndMatchesAJSONParserSpec)

/-- ITS FALSE NEIGHBOUR: 'it returns false'. Refute it at one input. -/
def fnValueEndMatchesAJSONParserWrong : ChangeSpec := { name := "fnValueEndMatchesAJSONParser", fn := fun _ => fun
  | [d1, d2] => { results := [.lit (.bool false)], args := [d1, d2] }
  | _ => none }
def FnValueEndMatchesAJSONParserWrongFalsely : Prop := fnValueEndMatchesAJSONParserRow.holds Try.pinned (OpenSpec.ofChange fnValueEndMatchesAJSONParserWrong)

/-- 'zzlaws_internal_exactjson_b1.FnValueEndSeesTheValueAlone': WHATEVER THE INPUT: true; the input reads as it did. -/
def fnValueEndSeesTheValueAloneSpec : ChangeSpec := { name := "fnValueEndSeesTheValueAlone", fn := fun _ => fun
  | [d1, d2] => { results := [.lit (.bool true)], args := [d1, d2] }
  | _ => none }
def fnValueEndSeesTheValueAloneRow : OpenClaim := { program := "qxb6604204a", sum := "a5b457f6efc8846c2ba230f3faef73693cca30d27b5aad658fc21b06324c8932", func := "example.com/plain-leash/plain-leash/zzlaws_internal_exactjson_b1.FnValueEndSeesTheValueAlone", spec := "fnValueEndSeesTheValueAlone", inPlace := ["internal/bytealg.IndexByte", "internal/bytealg.IndexByteString"], apart := false }
def FnValueEndSeesTheValueAloneSaid : Prop := fnValueEndSeesTheValueAloneRow.holds Try.pinned (OpenSpec.ofChange fnValueEndSeesTheValueAloneSpec)

/-- ITS FALSE NEIGHBOUR: 'it returns false'. Refute it at one input. -/
def fnValueEndSeesTheValueAloneWrong : ChangeSpec := { name := "fnValueEndSeesTheValueAlone", fn := fun _ => fun
  | [d1, d2] => { results := [.lit (.bool false)], args := [d1, d2] }
  | _ => none }
def FnValueEndSeesTheValueAloneWrongFalsely : Prop := fnValueEndSeesTheValueAloneRow.holds Try.pinned (OpenSpec.ofChange fnValueEndSeesTheValueAloneWrong)

end Rows
end Go.Proofs.Qxb6604204a
