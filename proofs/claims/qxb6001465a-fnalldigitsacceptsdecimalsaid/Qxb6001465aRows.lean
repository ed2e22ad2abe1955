/-
  No cell of these rows narrows 'for every input' (looked for: loops, veiled, ifaces, maps, wideKeys, modest, calm, conditions, laid).
  DERIVED. THE GIVEN ROWS OF THIS SEAT. 3 by the template 'for every input the law returns true; each argument reads behind the call as it read before'; 0 by the template 'total and deterministic' (their statements: Qxb6001465aTotals.lean).
  GIVEN WITH THE SEED: the statements are not yours to turn. If you find one false, say at which input.
  Laid BY PROGRAM, IN A SANDBOX (cutbox-rows.mjs): the forced cells as the released guide's own fill.sh prints them over the translation 99e5c876d8e01cad… (all of the seat's roots in one cut). By AI agents, Wed Nov 11 2026. No macro, syntax, notation, axiom, sorry.
-/
import Derived.Test.Qxb6001465aChecked
import GoSem.Claim
import GoSem.ClaimJoined
import GoSem.ClaimMapViews
import Derived.JoinedTies
import Derived.KernelRfl
namespace Go.Proofs.Qxb6001465a
/- THE CELL 'sum', in the pinned program and in every row, IS THE sha256 OF THE DUMP (.gsa) THAT Qxb6001465aProg.lean LOADS. Nothing in Lean hashes anything: it is a label: what it is worth is what the hold of that sum in a sandbox is worth. -/
noncomputable def Try.pinned : Pinned := { name := "qxb6001465a", sum := "99e5c876d8e01cadde8874e52c13de1edaf232a5d24ed5abffb32919e91ca5d5", checked := Try.checked }
namespace Rows
def none {H : Type} : Left H := { results := [], args := [] }

/-- 'zzlaws_pkg_format1_b1.FnAllDigitsConcat': WHATEVER THE INPUT: true; the input reads as it did. -/
def fnAllDigitsConcatSpec : ChangeSpec := { name := "fnAllDigitsConcat", fn := fun _ => fun
  | [d1, d2] => { results := [.lit (.bool true)], args := [d1, d2] }
  | _ => none }
def fnAllDigitsConcatRow : OpenClaim := { program := "qxb6001465a", sum := "99e5c876d8e01cadde8874e52c13de1edaf232a5d24ed5abffb32919e91ca5d5", func := "example.com/vestroll/vestroll/zzlaws_pkg_format1_b1.FnAllDigitsConcat", spec := "fnAllDigitsConcat", apart := false }
def FnAllDigitsConcatSaid : Prop := fnAllDigitsConcatRow.holds Try.pinned (OpenSpec.ofChange fnAllDigitsConcatSpec)

/-- ITS FALSE NEIGHBOUR: 'it returns false'. Refute it at one input. -/
def fnAllDigitsConcatWrong : ChangeSpec := { name := "fnAllDigitsConcat", fn := fun _ => fun
  | [d1, d2] => { results := [.lit (.bool false)], args := [d1, d2] }
  | _ => none }
def FnAllDigitsConcatWrongFalsely : Prop := fnAllDigitsConcatRow.holds Try.pinned (OpenSpec.ofChange fnAllDigitsConcatWrong)

/-- 'zzlaws_pkg_format1_b1.FnAllDigitsRefusesNonDigit': WHATEVER THE INPUT: true; the input reads as it did. -/
def fnAllDigitsRefusesNonDigitSpec : ChangeSpec := { name := "fnAllDigitsRefusesNonDigit", fn := fun _ => fun
  | [d1, d2, d3] => { results := [.lit (.bool true)], args := [d1, d2, d3] }
  | _ => none }
def fnAllDigitsRefusesNonDigitRow : OpenClaim := { program := "qxb6001465a", sum := "99e5c876d8e01cadde8874e52c13de1edaf232a5d24ed5abffb32919e91ca5d5", func := "example.com/vestroll/vestroll/zzlaws_pkg_format1_b1.FnAllDigitsRefusesNonDigit", spec := "fnAllDigitsRefusesNonDigit", apart := false }
def FnAllDigitsRefusesNonDigitSaid : Prop := fnAllDigitsRefusesNonDigitRow.holds Try.pinned (OpenSpec.ofChange fnAllDigitsRefusesNonDigitSpec)

/-- ITS FALSE NEIGHBOUR: 'it returns false'. Refute it at one input. -/
def fnAllDigitsRefusesNonDigitWrong : ChangeSpec := { name := "fnAllDigitsRefusesNonDigit", fn := fun _ => fun
  | [d1, d2, d3] => { results := [.lit (.bool false)], args := [d1, d2, d3] }
  | _ => none }
def FnAllDigitsRefusesNonDigitWrongFalsely : Prop := fnAllDigitsRefusesNonDigitRow.holds Try.pinned (OpenSpec.ofChange fnAllDigitsRefusesNonDigitWrong)

/-- 'zzlaws_pkg_format1_b1.FnAllDigitsAcceptsDecimal': WHATEVER THE INPUT: true; the input reads as it did. -/
def fnAllDigitsAcceptsDecimalSpec : ChangeSpec := { name := "fnAllDigitsAcceptsDecimal", fn := fun _ => fun
  | [d1, d2] => { results := [.lit (.bool true)], args := [d1, d2] }
  | _ => none }
def fnAllDigitsAcceptsDecimalRow : OpenClaim := { program := "qxb6001465a", sum := "99e5c876d8e01cadde8874e52c13de1edaf232a5d24ed5abffb32919e91ca5d5", func := "example.com/vestroll/vestroll/zzlaws_pkg_format1_b1.FnAllDigitsAcceptsDecimal", spec := "fnAllDigitsAcceptsDecimal", apart := false }
def FnAllDigitsAcceptsDecimalSaid : Prop := fnAllDigitsAcceptsDecimalRow.holds Try.pinned (OpenSpec.ofChange fnAllDigitsAcceptsDecimalSpec)

/-- ITS FALSE NEIGHBOUR: 'it returns false'. Refute it at one input. -/
def fnAllDigitsAcceptsDecimalWrong : ChangeSpec := { name := "fnAllDigitsAcceptsDecimal", fn := fun _ => fun
  | [d1, d2] => { results := [.lit (.bool false)], args := [d1, d2] }
  | _ => none }
def FnAllDigitsAcceptsDecimalWrongFalsely : Prop := fnAllDigitsAcceptsDecimalRow.holds Try.pinned (OpenSpec.ofChange fnAllDigitsAcceptsDecimalWrong)

end Rows
end Go.Proofs.Qxb6001465a
