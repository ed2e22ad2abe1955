/-
  No cell of these rows narrows 'for every input' (looked for: loops, veiled, ifaces, maps, wideKeys, modest, calm, conditions, laid).
  DERIVED. THE GIVEN ROWS OF THIS SEAT. 5 by the template 'for every input the law returns true; each argument reads behind the call as it read before'; 0 by the template 'total and deterministic' (their statements: Qxb6000799aTotals.lean).
  GIVEN WITH THE SEED: the statements are not yours to turn. If you find one false, say at which input.
  Laid BY PROGRAM, IN A SANDBOX (cutbox-rows.mjs): the forced cells as the released guide's own fill.sh prints them over the translation 9c91cd203d661890… (all of the seat's roots in one cut). By AI agents, Wed Nov 11 2026. No macro, syntax, notation, axiom, sorry.
-/
import Derived.Test.Qxb6000799aChecked
import GoSem.Claim
import GoSem.ClaimJoined
import GoSem.ClaimMapViews
import Derived.JoinedTies
import Derived.KernelRfl
namespace Go.Proofs.Qxb6000799a
/- THE CELL 'sum', in the pinned program and in every row, IS THE sha256 OF THE DUMP (.gsa) THAT Qxb6000799aProg.lean LOADS. Nothing in Lean hashes anything: it is a label: what it is worth is what the hold of that sum in a sandbox is worth. -/
noncomputable def Try.pinned : Pinned := { name := "qxb6000799a", sum := "9c91cd203d661890f15ef1414e808b1c587862e90caf2166a281f27108240671", checked := Try.checked }
namespace Rows
def none {H : Type} : Left H := { results := [], args := [] }

/-- 'zzlaws_internal_dec_b1.FnPlainAcceptsExactlyTheGrammar': WHATEVER THE INPUT: true; the input reads as it did. -/
def fnPlainAcceptsExactlyTheGrammarSpec : ChangeSpec := { name := "fnPlainAcceptsExactlyTheGrammar", fn := fun _ => fun
  | [d] => { results := [.lit (.bool true)], args := [d] }
  | _ => none }
def fnPlainAcceptsExactlyTheGrammarRow : OpenClaim := { program := "qxb6000799a", sum := "9c91cd203d661890f15ef1414e808b1c587862e90caf2166a281f27108240671", func := "example.com/tuoguan/tuoguan/zzlaws_internal_dec_b1.FnPlainAcceptsExactlyTheGrammar", spec := "fnPlainAcceptsExactlyTheGrammar", apart := false }
def FnPlainAcceptsExactlyTheGrammarSaid : Prop := fnPlainAcceptsExactlyTheGrammarRow.holds Try.pinned (OpenSpec.ofChange fnPlainAcceptsExactlyTheGrammarSpec)

/-- ITS FALSE NEIGHBOUR: 'it returns false'. Refute it at one input. -/
def fnPlainAcceptsExactlyTheGrammarWrong : ChangeSpec := { name := "fnPlainAcceptsExactlyTheGrammar", fn := fun _ => fun
  | [d] => { results := [.lit (.bool false)], args := [d] }
  | _ => none }
def FnPlainAcceptsExactlyTheGrammarWrongFalsely : Prop := fnPlainAcceptsExactlyTheGrammarRow.holds Try.pinned (OpenSpec.ofChange fnPlainAcceptsExactlyTheGrammarWrong)

/-- 'zzlaws_internal_dec_b1.FnPlainRoundTrip': WHATEVER THE INPUT: true; the input reads as it did. -/
def fnPlainRoundTripSpec : ChangeSpec := { name := "fnPlainRoundTrip", fn := fun _ => fun
  | [d] => { results := [.lit (.bool true)], args := [d] }
  | _ => none }
def fnPlainRoundTripRow : OpenClaim := { program := "qxb6000799a", sum := "9c91cd203d661890f15ef1414e808b1c587862e90caf2166a281f27108240671", func := "example.com/tuoguan/tuoguan/zzlaws_internal_dec_b1.FnPlainRoundTrip", spec := "fnPlainRoundTrip", apart := false }
def FnPlainRoundTripSaid : Prop := fnPlainRoundTripRow.holds Try.pinned (OpenSpec.ofChange fnPlainRoundTripSpec)

/-- ITS FALSE NEIGHBOUR: 'it returns false'. Refute it at one input. -/
def fnPlainRoundTripWrong : ChangeSpec := { name := "fnPlainRoundTrip", fn := fun _ => fun
  | [d] => { results := [.lit (.bool false)], args := [d] }
  | _ => none }
def FnPlainRoundTripWrongFalsely : Prop := fnPlainRoundTripRow.holds Try.pinned (OpenSpec.ofChange fnPlainRoundTripWrong)

/-- 'zzlaws_internal_dec_b1.FnPlainAppendDigit': WHATEVER THE INPUT: true; the input reads as it did. -/
def fnPlainAppendDigitSpec : ChangeSpec := { name := "fnPlainAppendDigit", fn := fun _ => fun
  | [d1, d2] => { results := [.lit (.bool true)], args := [d1, d2] }
  | _ => none }
def fnPlainAppendDigitRow : OpenClaim := { program := "qxb6000799a", sum := "9c91cd203d661890f15ef1414e808b1c587862e90caf2166a281f27108240671", func := "example.com/tuoguan/tuoguan/zzlaws_internal_dec_b1.FnPlainAppendDigit", spec := "fnPlainAppendDigit", apart := false }
def FnPlainAppendDigitSaid : Prop := fnPlainAppendDigitRow.holds Try.pinned (OpenSpec.ofChange fnPlainAppendDigitSpec)

/-- ITS FALSE NEIGHBOUR: 'it returns false'. Refute it at one input. -/
def fnPlainAppendDigitWrong : ChangeSpec := { name := "fnPlainAppendDigit", fn := fun _ => fun
  | [d1, d2] => { results := [.lit (.bool false)], args := [d1, d2] }
  | _ => none }
def FnPlainAppendDigitWrongFalsely : Prop := fnPlainAppendDigitRow.holds Try.pinned (OpenSpec.ofChange fnPlainAppendDigitWrong)

/-- 'zzlaws_internal_dec_b1.FnSignOddAndMonotone': WHATEVER THE INPUT: true; the input reads as it did. -/
def fnSignOddAndMonotoneSpec : ChangeSpec := { name := "fnSignOddAndMonotone", fn := fun _ => fun
  | [d1, d2, d3] => { results := [.lit (.bool true)], args := [d1, d2, d3] }
  | _ => none }
def fnSignOddAndMonotoneRow : OpenClaim := { program := "qxb6000799a", sum := "9c91cd203d661890f15ef1414e808b1c587862e90caf2166a281f27108240671", func := "example.com/tuoguan/tuoguan/zzlaws_internal_dec_b1.FnSignOddAndMonotone", spec := "fnSignOddAndMonotone", apart := false }
def FnSignOddAndMonotoneSaid : Prop := fnSignOddAndMonotoneRow.holds Try.pinned (OpenSpec.ofChange fnSignOddAndMonotoneSpec)

/-- ITS FALSE NEIGHBOUR: 'it returns false'. Refute it at one input. -/
def fnSignOddAndMonotoneWrong : ChangeSpec := { name := "fnSignOddAndMonotone", fn := fun _ => fun
  | [d1, d2, d3] => { results := [.lit (.bool false)], args := [d1, d2, d3] }
  | _ => none }
def FnSignOddAndMonotoneWrongFalsely : Prop := fnSignOddAndMonotoneRow.holds Try.pinned (OpenSpec.ofChange fnSignOddAndMonotoneWrong)

/-- 'zzlaws_internal_dec_b1.FnSignOfPlainAgreesWithDigits': WHATEVER THE INPUT: true; the input reads as it did. -/
def fnSignOfPlainAgreesWithDigitsSpec : ChangeSpec := { name := "fnSignOfPlainAgreesWithDigits", fn := fun _ => fun
  | [d1, d2] => { results := [.lit (.bool true)], args := [d1, d2] }
  | _ => none }
def fnSignOfPlainAgreesWithDigitsRow : OpenClaim := { program := "qxb6000799a", sum := "9c91cd203d661890f15ef1414e808b1c587862e90caf2166a281f27108240671", func := "example.com/tuoguan/tuoguan/zzlaws_internal_dec_b1.FnSignOfPlainAgreesWithDigits", spec := "fnSignOfPlainAgreesWithDigits", apart := false }
def FnSignOfPlainAgreesWithDigitsSaid : Prop := fnSignOfPlainAgreesWithDigitsRow.holds Try.pinned (OpenSpec.ofChange fnSignOfPlainAgreesWithDigitsSpec)

/-- ITS FALSE NEIGHBOUR: 'it returns false'. Refute it at one input. -/
def fnSignOfPlainAgreesWithDigitsWrong : ChangeSpec := { name := "fnSignOfPlainAgreesWithDigits", fn := fun _ => fun
  | [d1, d2] => { results := [.lit (.bool false)], args := [d1, d2] }
  | _ => none }
def FnSignOfPlainAgreesWithDigitsWrongFalsely : Prop := fnSignOfPlainAgreesWithDigitsRow.holds Try.pinned (OpenSpec.ofChange fnSignOfPlainAgreesWithDigitsWrong)

end Rows
end Go.Proofs.Qxb6000799a
