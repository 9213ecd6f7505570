/-
  No cell of these rows narrows 'for every input' (looked for: loops, veiled, ifaces, maps, wideKeys, modest, calm, conditions, laid).
  DERIVED. THE GIVEN ROWS OF THIS SEAT. 4 by the template 'for every input the law returns true; each argument reads behind the call as it read before'; 0 by the template 'total and deterministic' (their statements: Qxb6603312aTotals.lean).
  GIVEN WITH THE SEED: the statements are not yours to turn. If you find one false, say at which input.
  Laid BY PROGRAM, IN A SANDBOX (cutbox-rows.mjs): the forced cells as the released guide's own fill.sh prints them over the translation 5021ef8b431566e7… (all of the seat's roots in one cut). By AI agents, Wed Nov 11 2026. No macro, syntax, notation, axiom, sorry.
-/
import Derived.Test.Qxb6603312aChecked
import GoSem.Claim
import GoSem.ClaimJoined
import GoSem.ClaimMapViews
import Derived.JoinedTies
import Derived.KernelRfl
namespace Go.Proofs.Qxb6603312a
/- THE CELL 'sum', in the pinned program and in every row, IS THE sha256 OF THE DUMP (.gsa) THAT Qxb6603312aProg.lean LOADS. Nothing in Lean hashes anything: it is a label: what it is worth is what the hold of that sum in a sandbox is worth. -/
noncomputable def Try.pinned : Pinned := { name := "qxb6603312a", sum := "5021ef8b431566e72ab88ec0380e800ad2fa9000341d4e93e9e20893282e414b", checked := Try.checked }
namespace Rows
def none {H : Type} : Left H := { results := [], args := [] }

/-- 'zzlaws_internal_syntax_b1.FnZoneReadsBackAWrittenOffset': WHATEVER THE INPUT: true; the input reads as it did. -/
def fnZoneReadsBackAWrittenOffsetSpec : ChangeSpec := { name := "fnZoneReadsBackAWrittenOffset", fn := fun _ => fun
  | [d1, d2, d3, d4, d5, d6] => { results := [.lit (.bool true)], args := [d1, d2, d3, d4, d5, d6] }
  | _ => none }
def fnZoneReadsBackAWrittenOffsetRow : OpenClaim := { program := "qxb6603312a", sum := "5021ef8b431566e72ab88ec0380e800ad2fa9000341d4e93e9e20893282e414b", func := "example.com/pathlight/pathlight/zzlaws_internal_syntax_b1.FnZoneReadsBackAWrittenOffset", spec := "fnZoneReadsBackAWrittenOffset", apart := false }
def FnZoneReadsBackAWrittenOffsetSaid : Prop := fnZoneReadsBackAWrittenOffsetRow.holds Try.pinned (OpenSpec.ofChange fnZoneReadsBackAWrittenOffsetSpec)

/-- ITS FALSE NEIGHBOUR: 'it returns false'. Refute it at one input. -/
def fnZoneReadsBackAWrittenOffsetWrong : ChangeSpec := { name := "fnZoneReadsBackAWrittenOffset", fn := fun _ => fun
  | [d1, d2, d3, d4, d5, d6] => { results := [.lit (.bool false)], args := [d1, d2, d3, d4, d5, d6] }
  | _ => none }
def FnZoneReadsBackAWrittenOffsetWrongFalsely : Prop := fnZoneReadsBackAWrittenOffsetRow.holds Try.pinned (OpenSpec.ofChange fnZoneReadsBackAWrittenOffsetWrong)

/-- 'zzlaws_internal_syntax_b1.FnDaysSince1970MatchesLeapYearCount': WHATEVER THE INPUT: true; the input reads as it did. -/
def fnDaysSince1970MatchesLeapYearCountSpec : ChangeSpec := { name := "fnDaysSince1970MatchesLeapYearCount", fn := fun _ => fun
  | [d1, d2, d3] => { results := [.lit (.bool true)], args := [d1, d2, d3] }
  | _ => none }
def fnDaysSince1970MatchesLeapYearCountRow : OpenClaim := { program := "qxb6603312a", sum := "5021ef8b431566e72ab88ec0380e800ad2fa9000341d4e93e9e20893282e414b", func := "example.com/pathlight/pathlight/zzlaws_internal_syntax_b1.FnDaysSince1970MatchesLeapYearCount", spec := "fnDaysSince1970MatchesLeapYearCount", apart := false }
def FnDaysSince1970MatchesLeapYearCountSaid : Prop := fnDaysSince1970MatchesLeapYearCountRow.holds Try.pinned (OpenSpec.ofChange fnDaysSince1970MatchesLeapYearCountSpec)

/-- ITS FALSE NEIGHBOUR: 'it returns false'. Refute it at one input. -/
def fnDaysSince1970MatchesLeapYearCountWrong : ChangeSpec := { name := "fnDaysSince1970MatchesLeapYearCount", fn := fun _ => fun
  | [d1, d2, d3] => { results := [.lit (.bool false)], args := [d1, d2, d3] }
  | _ => none }
def FnDaysSince1970MatchesLeapYearCountWrongFalsely : Prop := fnDaysSince1970MatchesLeapYearCountRow.holds Try.pinned (OpenSpec.ofChange fnDaysSince1970MatchesLeapYearCountWrong)

/-- 'zzlaws_internal_syntax_b1.FnDaysSince1970FourHundredYearsAreOneEra': WHATEVER THE INPUT: true; the input reads as it did. -/
def fnDaysSince1970FourHundredYearsAreOneEraSpec : ChangeSpec := { name := "fnDaysSince1970FourHundredYearsAreOneEra", fn := fun _ => fun
  | [d1, d2, d3] => { results := [.lit (.bool true)], args := [d1, d2, d3] }
  | _ => none }
def fnDaysSince1970FourHundredYearsAreOneEraRow : OpenClaim := { program := "qxb6603312a", sum := "5021ef8b431566e72ab88ec0380e800ad2fa9000341d4e93e9e20893282e414b", func := "example.com/pathlight/pathlight/zzlaws_internal_syntax_b1.FnDaysSince1970FourHundredYearsAreOneEra", spec := "fnDaysSince1970FourHundredYearsAreOneEra", apart := false }
def FnDaysSince1970FourHundredYearsAreOneEraSaid : Prop := fnDaysSince1970FourHundredYearsAreOneEraRow.holds Try.pinned (OpenSpec.ofChange fnDaysSince1970FourHundredYearsAreOneEraSpec)

/-- ITS FALSE NEIGHBOUR: 'it returns false'. Refute it at one input. -/
def fnDaysSince1970FourHundredYearsAreOneEraWrong : ChangeSpec := { name := "fnDaysSince1970FourHundredYearsAreOneEra", fn := fun _ => fun
  | [d1, d2, d3] => { results := [.lit (.bool false)], args := [d1, d2, d3] }
  | _ => none }
def FnDaysSince1970FourHundredYearsAreOneEraWrongFalsely : Prop := fnDaysSince1970FourHundredYearsAreOneEraRow.holds Try.pinned (OpenSpec.ofChange fnDaysSince1970FourHundredYearsAreOneEraWrong)

/-- 'zzlaws_internal_syntax_b1.FnDaysSince1970NextDayIsOneMore': WHATEVER THE INPUT: true; the input reads as it did. -/
def fnDaysSince1970NextDayIsOneMoreSpec : ChangeSpec := { name := "fnDaysSince1970NextDayIsOneMore", fn := fun _ => fun
  | [d1, d2, d3] => { results := [.lit (.bool true)], args := [d1, d2, d3] }
  | _ => none }
def fnDaysSince1970NextDayIsOneMoreRow : OpenClaim := { program := "qxb6603312a", sum := "5021ef8b431566e72ab88ec0380e800ad2fa9000341d4e93e9e20893282e414b", func := "example.com/pathlight/pathlight/zzlaws_internal_syntax_b1.FnDaysSince1970NextDayIsOneMore", spec := "fnDaysSince1970NextDayIsOneMore", apart := false }
def FnDaysSince1970NextDayIsOneMoreSaid : Prop := fnDaysSince1970NextDayIsOneMoreRow.holds Try.pinned (OpenSpec.ofChange fnDaysSince1970NextDayIsOneMoreSpec)

/-- ITS FALSE NEIGHBOUR: 'it returns false'. Refute it at one input. -/
def fnDaysSince1970NextDayIsOneMoreWrong : ChangeSpec := { name := "fnDaysSince1970NextDayIsOneMore", fn := fun _ => fun
  | [d1, d2, d3] => { results := [.lit (.bool false)], args := [d1, d2, d3] }
  | _ => none }
def FnDaysSince1970NextDayIsOneMoreWrongFalsely : Prop := fnDaysSince1970NextDayIsOneMoreRow.holds Try.pinned (OpenSpec.ofChange fnDaysSince1970NextDayIsOneMoreWrong)

end Rows
end Go.Proofs.Qxb6603312a
