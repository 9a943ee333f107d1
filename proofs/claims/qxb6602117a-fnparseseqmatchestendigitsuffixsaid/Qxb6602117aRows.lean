/-
  No cell of these rows narrows 'for every input' (looked for: loops, veiled, ifaces, maps, wideKeys, modest, calm, conditions, laid).
  DERIVED. THE GIVEN ROWS OF THIS SEAT. 3 by the template 'for every input the law returns true; each argument reads behind the call as it read before'; 0 by the template 'total and deterministic' (their statements: Qxb6602117aTotals.lean).
  GIVEN WITH THE SEED: the statements are not yours to turn. If you find one false, say at which input.
  Laid BY PROGRAM, IN A SANDBOX (cutbox-rows.mjs): the forced cells as the released guide's own fill.sh prints them over the translation ff56ac97c36c2ab4… (all of the seat's roots in one cut). By AI agents, Wed Nov 11 2026. No macro, syntax, notation, axiom, sorry.
-/
import Derived.Test.Qxb6602117aChecked
import GoSem.Claim
import GoSem.ClaimJoined
import GoSem.ClaimMapViews
import Derived.JoinedTies
import Derived.KernelRfl
namespace Go.Proofs.Qxb6602117a
/- THE CELL 'sum', in the pinned program and in every row, IS THE sha256 OF THE DUMP (.gsa) THAT Qxb6602117aProg.lean LOADS. Nothing in Lean hashes anything: it is a label: what it is worth is what the hold of that sum in a sandbox is worth. -/
noncomputable def Try.pinned : Pinned := { name := "qxb6602117a", sum := "ff56ac97c36c2ab49624905a7347f2bc5a92309b43710c0fb919b82882abf149", checked := Try.checked }
namespace Rows
def none {H : Type} : Left H := { results := [], args := [] }

/-- 'zzlaws_root_b1.FnParseSeqMatchesTenDigitSuffix': WHATEVER THE INPUT: true; the input reads as it did. -/
def fnParseSeqMatchesTenDigitSuffixSpec : ChangeSpec := { name := "fnParseSeqMatchesTenDigitSuffix", fn := fun _ => fun
  | [d] => { results := [.lit (.bool true)], args := [d] }
  | _ => none }
def fnParseSeqMatchesTenDigitSuffixRow : OpenClaim := { program := "qxb6602117a", sum := "ff56ac97c36c2ab49624905a7347f2bc5a92309b43710c0fb919b82882abf149", func := "example.com/tenure/tenure/zzlaws_root_b1.FnParseSeqMatchesTenDigitSuffix", spec := "fnParseSeqMatchesTenDigitSuffix", apart := false }
def FnParseSeqMatchesTenDigitSuffixSaid : Prop := fnParseSeqMatchesTenDigitSuffixRow.holds Try.pinned (OpenSpec.ofChange fnParseSeqMatchesTenDigitSuffixSpec)

/-- ITS FALSE NEIGHBOUR: 'it returns false'. Refute it at one input. -/
def fnParseSeqMatchesTenDigitSuffixWrong : ChangeSpec := { name := "fnParseSeqMatchesTenDigitSuffix", fn := fun _ => fun
  | [d] => { results := [.lit (.bool false)], args := [d] }
  | _ => none }
def FnParseSeqMatchesTenDigitSuffixWrongFalsely : Prop := fnParseSeqMatchesTenDigitSuffixRow.holds Try.pinned (OpenSpec.ofChange fnParseSeqMatchesTenDigitSuffixWrong)

/-- 'zzlaws_root_b1.FnParseSeqRoundTripsPaddedCounter': WHATEVER THE INPUT: true; the input reads as it did. -/
def fnParseSeqRoundTripsPaddedCounterSpec : ChangeSpec := { name := "fnParseSeqRoundTripsPaddedCounter", fn := fun _ => fun
  | [d1, d2] => { results := [.lit (.bool true)], args := [d1, d2] }
  | _ => none }
def fnParseSeqRoundTripsPaddedCounterRow : OpenClaim := { program := "qxb6602117a", sum := "ff56ac97c36c2ab49624905a7347f2bc5a92309b43710c0fb919b82882abf149", func := "example.com/tenure/tenure/zzlaws_root_b1.FnParseSeqRoundTripsPaddedCounter", spec := "fnParseSeqRoundTripsPaddedCounter", apart := false }
def FnParseSeqRoundTripsPaddedCounterSaid : Prop := fnParseSeqRoundTripsPaddedCounterRow.holds Try.pinned (OpenSpec.ofChange fnParseSeqRoundTripsPaddedCounterSpec)

/-- ITS FALSE NEIGHBOUR: 'it returns false'. Refute it at one input. -/
def fnParseSeqRoundTripsPaddedCounterWrong : ChangeSpec := { name := "fnParseSeqRoundTripsPaddedCounter", fn := fun _ => fun
  | [d1, d2] => { results := [.lit (.bool false)], args := [d1, d2] }
  | _ => none }
def FnParseSeqRoundTripsPaddedCounterWrongFalsely : Prop := fnParseSeqRoundTripsPaddedCounterRow.holds Try.pinned (OpenSpec.ofChange fnParseSeqRoundTripsPaddedCounterWrong)

/-- 'zzlaws_root_b1.FnParseSeqOrderMatchesSuffixOrder': WHATEVER THE INPUT: true; the input reads as it did. -/
def fnParseSeqOrderMatchesSuffixOrderSpec : ChangeSpec := { name := "fnParseSeqOrderMatchesSuffixOrder", fn := fun _ => fun
  | [d1, d2] => { results := [.lit (.bool true)], args := [d1, d2] }
  | _ => none }
def fnParseSeqOrderMatchesSuffixOrderRow : OpenClaim := { program := "qxb6602117a", sum := "ff56ac97c36c2ab49624905a7347f2bc5a92309b43710c0fb919b82882abf149", func := "example.com/tenure/tenure/zzlaws_root_b1.FnParseSeqOrderMatchesSuffixOrder", spec := "fnParseSeqOrderMatchesSuffixOrder", apart := false }
def FnParseSeqOrderMatchesSuffixOrderSaid : Prop := fnParseSeqOrderMatchesSuffixOrderRow.holds Try.pinned (OpenSpec.ofChange fnParseSeqOrderMatchesSuffixOrderSpec)

/-- ITS FALSE NEIGHBOUR: 'it returns false'. Refute it at one input. -/
def fnParseSeqOrderMatchesSuffixOrderWrong : ChangeSpec := { name := "fnParseSeqOrderMatchesSuffixOrder", fn := fun _ => fun
  | [d1, d2] => { results := [.lit (.bool false)], args := [d1, d2] }
  | _ => none }
def FnParseSeqOrderMatchesSuffixOrderWrongFalsely : Prop := fnParseSeqOrderMatchesSuffixOrderRow.holds Try.pinned (OpenSpec.ofChange fnParseSeqOrderMatchesSuffixOrderWrong)

end Rows
end Go.Proofs.Qxb6602117a
