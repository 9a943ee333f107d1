/-
  No cell of these rows narrows 'for every input' (looked for: loops, veiled, ifaces, maps, wideKeys, modest, calm, conditions, laid).
  DERIVED. THE GIVEN ROWS OF THIS SEAT. 8 by the template 'for every input the law returns true; each argument reads behind the call as it read before'; 0 by the template 'total and deterministic' (their statements: Qxb6601352aTotals.lean).
  GIVEN WITH THE SEED: the statements are not yours to turn. If you find one false, say at which input.
  Laid BY PROGRAM, IN A SANDBOX (cutbox-rows.mjs): the forced cells as the released guide's own fill.sh prints them over the translation 60935e65a04e838f… (all of the seat's roots in one cut). By AI agents, Wed Nov 11 2026. No macro, syntax, notation, axiom, sorry.
-/
import Derived.Test.Qxb6601352aChecked
import GoSem.Claim
import GoSem.ClaimJoined
import GoSem.ClaimMapViews
import Derived.JoinedTies
import Derived.KernelRfl
namespace Go.Proofs.Qxb6601352a
/- THE CELL 'sum', in the pinned program and in every row, IS THE sha256 OF THE DUMP (.gsa) THAT Qxb6601352aProg.lean LOADS. Nothing in Lean hashes anything: it is a label: what it is worth is what the hold of that sum in a sandbox is worth. -/
noncomputable def Try.pinned : Pinned := { name := "qxb6601352a", sum := "60935e65a04e838f7142f15dda278bcd5b93754e2e09e311eacf6851f439c5bf", checked := Try.checked }
namespace Rows
def none {H : Type} : Left H := { results := [], args := [] }

/-- 'zzlaws_jsonread_b1.FnScanNumberMatchesAutomaton': WHATEVER THE INPUT: true; the input reads as it did. -/
def fnScanNumberMatchesAutomatonSpec : ChangeSpec := { name := "fnScanNumberMatchesAutomaton", fn := fun _ => fun
  | [d1, d2] => { results := [.lit (.bool true)], args := [d1, d2] }
  | _ => none }
def fnScanNumberMatchesAutomatonRow : OpenClaim := { program := "qxb6601352a", sum := "60935e65a04e838f7142f15dda278bcd5b93754e2e09e311eacf6851f439c5bf", func := "example.com/tokenweir/tokenweir/zzlaws_jsonread_b1.FnScanNumberMatchesAutomaton", spec := "fnScanNumberMatchesAutomaton", apart := false }
def FnScanNumberMatchesAutomatonSaid : Prop := fnScanNumberMatchesAutomatonRow.holds Try.pinned (OpenSpec.ofChange fnScanNumberMatchesAutomatonSpec)

/-- ITS FALSE NEIGHBOUR: 'it returns false'. Refute it at one input. -/
def fnScanNumberMatchesAutomatonWrong : ChangeSpec := { name := "fnScanNumberMatchesAutomaton", fn := fun _ => fun
  | [d1, d2] => { results := [.lit (.bool false)], args := [d1, d2] }
  | _ => none }
def FnScanNumberMatchesAutomatonWrongFalsely : Prop := fnScanNumberMatchesAutomatonRow.holds Try.pinned (OpenSpec.ofChange fnScanNumberMatchesAutomatonWrong)

/-- 'zzlaws_jsonread_b1.FnScanNumberDependsOnlyOnTheRest': WHATEVER THE INPUT: true; the input reads as it did. -/
def fnScanNumberDependsOnlyOnTheRestSpec : ChangeSpec := { name := "fnScanNumberDependsOnlyOnTheRest", fn := fun _ => fun
  | [d1, d2] => { results := [.lit (.bool true)], args := [d1, d2] }
  | _ => none }
def fnScanNumberDependsOnlyOnTheRestRow : OpenClaim := { program := "qxb6601352a", sum := "60935e65a04e838f7142f15dda278bcd5b93754e2e09e311eacf6851f439c5bf", func := "example.com/tokenweir/tokenweir/zzlaws_jsonread_b1.FnScanNumberDependsOnlyOnTheRest", spec := "fnScanNumberDependsOnlyOnTheRest", apart := false }
def FnScanNumberDependsOnlyOnTheRestSaid : Prop := fnScanNumberDependsOnlyOnTheRestRow.holds Try.pinned (OpenSpec.ofChange fnScanNumberDependsOnlyOnTheRestSpec)

/-- ITS FALSE NEIGHBOUR: 'it returns false'. Refute it at one input. -/
def fnScanNumberDependsOnlyOnTheRestWrong : ChangeSpec := { name := "fnScanNumberDependsOnlyOnTheRest", fn := fun _ => fun
  | [d1, d2] => { results := [.lit (.bool false)], args := [d1, d2] }
  | _ => none }
def FnScanNumberDependsOnlyOnTheRestWrongFalsely : Prop := fnScanNumberDependsOnlyOnTheRestRow.holds Try.pinned (OpenSpec.ofChange fnScanNumberDependsOnlyOnTheRestWrong)

/-- 'zzlaws_jsonread_b1.FnScanNumberStopsAtItsEnd': WHATEVER THE INPUT: true; the input reads as it did. -/
def fnScanNumberStopsAtItsEndSpec : ChangeSpec := { name := "fnScanNumberStopsAtItsEnd", fn := fun _ => fun
  | [d1, d2] => { results := [.lit (.bool true)], args := [d1, d2] }
  | _ => none }
def fnScanNumberStopsAtItsEndRow : OpenClaim := { program := "qxb6601352a", sum := "60935e65a04e838f7142f15dda278bcd5b93754e2e09e311eacf6851f439c5bf", func := "example.com/tokenweir/tokenweir/zzlaws_jsonread_b1.FnScanNumberStopsAtItsEnd", spec := "fnScanNumberStopsAtItsEnd", apart := false }
def FnScanNumberStopsAtItsEndSaid : Prop := fnScanNumberStopsAtItsEndRow.holds Try.pinned (OpenSpec.ofChange fnScanNumberStopsAtItsEndSpec)

/-- ITS FALSE NEIGHBOUR: 'it returns false'. Refute it at one input. -/
def fnScanNumberStopsAtItsEndWrong : ChangeSpec := { name := "fnScanNumberStopsAtItsEnd", fn := fun _ => fun
  | [d1, d2] => { results := [.lit (.bool false)], args := [d1, d2] }
  | _ => none }
def FnScanNumberStopsAtItsEndWrongFalsely : Prop := fnScanNumberStopsAtItsEndRow.holds Try.pinned (OpenSpec.ofChange fnScanNumberStopsAtItsEndWrong)

/-- 'zzlaws_jsonread_b1.FnSkipSpaceStopsAtFirstNonSpace': WHATEVER THE INPUT: true; the input reads as it did. -/
def fnSkipSpaceStopsAtFirstNonSpaceSpec : ChangeSpec := { name := "fnSkipSpaceStopsAtFirstNonSpace", fn := fun _ => fun
  | [d1, d2] => { results := [.lit (.bool true)], args := [d1, d2] }
  | _ => none }
def fnSkipSpaceStopsAtFirstNonSpaceRow : OpenClaim := { program := "qxb6601352a", sum := "60935e65a04e838f7142f15dda278bcd5b93754e2e09e311eacf6851f439c5bf", func := "example.com/tokenweir/tokenweir/zzlaws_jsonread_b1.FnSkipSpaceStopsAtFirstNonSpace", spec := "fnSkipSpaceStopsAtFirstNonSpace", apart := false }
def FnSkipSpaceStopsAtFirstNonSpaceSaid : Prop := fnSkipSpaceStopsAtFirstNonSpaceRow.holds Try.pinned (OpenSpec.ofChange fnSkipSpaceStopsAtFirstNonSpaceSpec)

/-- ITS FALSE NEIGHBOUR: 'it returns false'. Refute it at one input. -/
def fnSkipSpaceStopsAtFirstNonSpaceWrong : ChangeSpec := { name := "fnSkipSpaceStopsAtFirstNonSpace", fn := fun _ => fun
  | [d1, d2] => { results := [.lit (.bool false)], args := [d1, d2] }
  | _ => none }
def FnSkipSpaceStopsAtFirstNonSpaceWrongFalsely : Prop := fnSkipSpaceStopsAtFirstNonSpaceRow.holds Try.pinned (OpenSpec.ofChange fnSkipSpaceStopsAtFirstNonSpaceWrong)

/-- 'zzlaws_jsonread_b1.FnSkipSpaceIdempotent': WHATEVER THE INPUT: true; the input reads as it did. -/
def fnSkipSpaceIdempotentSpec : ChangeSpec := { name := "fnSkipSpaceIdempotent", fn := fun _ => fun
  | [d1, d2] => { results := [.lit (.bool true)], args := [d1, d2] }
  | _ => none }
def fnSkipSpaceIdempotentRow : OpenClaim := { program := "qxb6601352a", sum := "60935e65a04e838f7142f15dda278bcd5b93754e2e09e311eacf6851f439c5bf", func := "example.com/tokenweir/tokenweir/zzlaws_jsonread_b1.FnSkipSpaceIdempotent", spec := "fnSkipSpaceIdempotent", apart := false }
def FnSkipSpaceIdempotentSaid : Prop := fnSkipSpaceIdempotentRow.holds Try.pinned (OpenSpec.ofChange fnSkipSpaceIdempotentSpec)

/-- ITS FALSE NEIGHBOUR: 'it returns false'. Refute it at one input. -/
def fnSkipSpaceIdempotentWrong : ChangeSpec := { name := "fnSkipSpaceIdempotent", fn := fun _ => fun
  | [d1, d2] => { results := [.lit (.bool false)], args := [d1, d2] }
  | _ => none }
def FnSkipSpaceIdempotentWrongFalsely : Prop := fnSkipSpaceIdempotentRow.holds Try.pinned (OpenSpec.ofChange fnSkipSpaceIdempotentWrong)

/-- 'zzlaws_jsonread_b1.FnSkipSpaceMonotone': WHATEVER THE INPUT: true; the input reads as it did. -/
def fnSkipSpaceMonotoneSpec : ChangeSpec := { name := "fnSkipSpaceMonotone", fn := fun _ => fun
  | [d1, d2, d3] => { results := [.lit (.bool true)], args := [d1, d2, d3] }
  | _ => none }
def fnSkipSpaceMonotoneRow : OpenClaim := { program := "qxb6601352a", sum := "60935e65a04e838f7142f15dda278bcd5b93754e2e09e311eacf6851f439c5bf", func := "example.com/tokenweir/tokenweir/zzlaws_jsonread_b1.FnSkipSpaceMonotone", spec := "fnSkipSpaceMonotone", apart := false }
def FnSkipSpaceMonotoneSaid : Prop := fnSkipSpaceMonotoneRow.holds Try.pinned (OpenSpec.ofChange fnSkipSpaceMonotoneSpec)

/-- ITS FALSE NEIGHBOUR: 'it returns false'. Refute it at one input. -/
def fnSkipSpaceMonotoneWrong : ChangeSpec := { name := "fnSkipSpaceMonotone", fn := fun _ => fun
  | [d1, d2, d3] => { results := [.lit (.bool false)], args := [d1, d2, d3] }
  | _ => none }
def FnSkipSpaceMonotoneWrongFalsely : Prop := fnSkipSpaceMonotoneRow.holds Try.pinned (OpenSpec.ofChange fnSkipSpaceMonotoneWrong)

/-- 'zzlaws_jsonread_b1.FnHexRuneIsPositionalValue': WHATEVER THE INPUT: true; the input reads as it did. -/
def fnHexRuneIsPositionalValueSpec : ChangeSpec := { name := "fnHexRuneIsPositionalValue", fn := fun _ => fun
  | [d] => { results := [.lit (.bool true)], args := [d] }
  | _ => none }
def fnHexRuneIsPositionalValueRow : OpenClaim := { program := "qxb6601352a", sum := "60935e65a04e838f7142f15dda278bcd5b93754e2e09e311eacf6851f439c5bf", func := "example.com/tokenweir/tokenweir/zzlaws_jsonread_b1.FnHexRuneIsPositionalValue", spec := "fnHexRuneIsPositionalValue", apart := false }
def FnHexRuneIsPositionalValueSaid : Prop := fnHexRuneIsPositionalValueRow.holds Try.pinned (OpenSpec.ofChange fnHexRuneIsPositionalValueSpec)

/-- ITS FALSE NEIGHBOUR: 'it returns false'. Refute it at one input. -/
def fnHexRuneIsPositionalValueWrong : ChangeSpec := { name := "fnHexRuneIsPositionalValue", fn := fun _ => fun
  | [d] => { results := [.lit (.bool false)], args := [d] }
  | _ => none }
def FnHexRuneIsPositionalValueWrongFalsely : Prop := fnHexRuneIsPositionalValueRow.holds Try.pinned (OpenSpec.ofChange fnHexRuneIsPositionalValueWrong)

/-- 'zzlaws_jsonread_b1.FnHexRuneReadsBackFourHexDigits': WHATEVER THE INPUT: true; the input reads as it did. -/
def fnHexRuneReadsBackFourHexDigitsSpec : ChangeSpec := { name := "fnHexRuneReadsBackFourHexDigits", fn := fun _ => fun
  | [d1, d2] => { results := [.lit (.bool true)], args := [d1, d2] }
  | _ => none }
def fnHexRuneReadsBackFourHexDigitsRow : OpenClaim := { program := "qxb6601352a", sum := "60935e65a04e838f7142f15dda278bcd5b93754e2e09e311eacf6851f439c5bf", func := "example.com/tokenweir/tokenweir/zzlaws_jsonread_b1.FnHexRuneReadsBackFourHexDigits", spec := "fnHexRuneReadsBackFourHexDigits", apart := false }
def FnHexRuneReadsBackFourHexDigitsSaid : Prop := fnHexRuneReadsBackFourHexDigitsRow.holds Try.pinned (OpenSpec.ofChange fnHexRuneReadsBackFourHexDigitsSpec)

/-- ITS FALSE NEIGHBOUR: 'it returns false'. Refute it at one input. -/
def fnHexRuneReadsBackFourHexDigitsWrong : ChangeSpec := { name := "fnHexRuneReadsBackFourHexDigits", fn := fun _ => fun
  | [d1, d2] => { results := [.lit (.bool false)], args := [d1, d2] }
  | _ => none }
def FnHexRuneReadsBackFourHexDigitsWrongFalsely : Prop := fnHexRuneReadsBackFourHexDigitsRow.holds Try.pinned (OpenSpec.ofChange fnHexRuneReadsBackFourHexDigitsWrong)

end Rows
end Go.Proofs.Qxb6601352a
