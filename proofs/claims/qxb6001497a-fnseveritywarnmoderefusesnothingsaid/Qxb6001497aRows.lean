/-
  No cell of these rows narrows 'for every input' (looked for: loops, veiled, ifaces, maps, wideKeys, modest, calm, conditions, laid).
  DERIVED. THE GIVEN ROWS OF THIS SEAT. 3 by the template 'for every input the law returns true; each argument reads behind the call as it read before'; 0 by the template 'total and deterministic' (their statements: Qxb6001497aTotals.lean).
  GIVEN WITH THE SEED: the statements are not yours to turn. If you find one false, say at which input.
  Laid BY PROGRAM, IN A SANDBOX (cutbox-rows.mjs): the forced cells as the released guide's own fill.sh prints them over the translation 12c241912a4f8261… (all of the seat's roots in one cut). By AI agents, Wed Nov 11 2026. No macro, syntax, notation, axiom, sorry.
-/
import Derived.Test.Qxb6001497aChecked
import GoSem.Claim
import GoSem.ClaimJoined
import GoSem.ClaimMapViews
import Derived.JoinedTies
import Derived.KernelRfl
namespace Go.Proofs.Qxb6001497a
/- THE CELL 'sum', in the pinned program and in every row, IS THE sha256 OF THE DUMP (.gsa) THAT Qxb6001497aProg.lean LOADS. Nothing in Lean hashes anything: it is a label: what it is worth is what the hold of that sum in a sandbox is worth. -/
noncomputable def Try.pinned : Pinned := { name := "qxb6001497a", sum := "12c241912a4f826142e1346ce179dae02dc8fc8b9a3b920578ccf92839867f7a", checked := Try.checked }
namespace Rows
def none {H : Type} : Left H := { results := [], args := [] }

/-- 'zzlaws_crdcheck_b1.FnSeverityZeroPolicyRefusesEveryRule': WHATEVER THE INPUT: true; the input reads as it did. -/
def fnSeverityZeroPolicyRefusesEveryRuleSpec : ChangeSpec := { name := "fnSeverityZeroPolicyRefusesEveryRule", fn := fun _ => fun
  | [d] => { results := [.lit (.bool true)], args := [d] }
  | _ => none }
def fnSeverityZeroPolicyRefusesEveryRuleRow : OpenClaim := { program := "qxb6001497a", sum := "12c241912a4f826142e1346ce179dae02dc8fc8b9a3b920578ccf92839867f7a", func := "example.com/mortise/mortise/zzlaws_crdcheck_b1.FnSeverityZeroPolicyRefusesEveryRule", spec := "fnSeverityZeroPolicyRefusesEveryRule", apart := false }
def FnSeverityZeroPolicyRefusesEveryRuleSaid : Prop := fnSeverityZeroPolicyRefusesEveryRuleRow.holds Try.pinned (OpenSpec.ofChange fnSeverityZeroPolicyRefusesEveryRuleSpec)

/-- ITS FALSE NEIGHBOUR: 'it returns false'. Refute it at one input. -/
def fnSeverityZeroPolicyRefusesEveryRuleWrong : ChangeSpec := { name := "fnSeverityZeroPolicyRefusesEveryRule", fn := fun _ => fun
  | [d] => { results := [.lit (.bool false)], args := [d] }
  | _ => none }
def FnSeverityZeroPolicyRefusesEveryRuleWrongFalsely : Prop := fnSeverityZeroPolicyRefusesEveryRuleRow.holds Try.pinned (OpenSpec.ofChange fnSeverityZeroPolicyRefusesEveryRuleWrong)

/-- 'zzlaws_crdcheck_b1.FnSeverityWarnModeRefusesNothing': WHATEVER THE INPUT: true; the input reads as it did. -/
def fnSeverityWarnModeRefusesNothingSpec : ChangeSpec := { name := "fnSeverityWarnModeRefusesNothing", fn := fun _ => fun
  | [d1, d2] => { results := [.lit (.bool true)], args := [d1, d2] }
  | _ => none }
def fnSeverityWarnModeRefusesNothingRow : OpenClaim := { program := "qxb6001497a", sum := "12c241912a4f826142e1346ce179dae02dc8fc8b9a3b920578ccf92839867f7a", func := "example.com/mortise/mortise/zzlaws_crdcheck_b1.FnSeverityWarnModeRefusesNothing", spec := "fnSeverityWarnModeRefusesNothing", apart := false }
def FnSeverityWarnModeRefusesNothingSaid : Prop := fnSeverityWarnModeRefusesNothingRow.holds Try.pinned (OpenSpec.ofChange fnSeverityWarnModeRefusesNothingSpec)

/-- ITS FALSE NEIGHBOUR: 'it returns false'. Refute it at one input. -/
def fnSeverityWarnModeRefusesNothingWrong : ChangeSpec := { name := "fnSeverityWarnModeRefusesNothing", fn := fun _ => fun
  | [d1, d2] => { results := [.lit (.bool false)], args := [d1, d2] }
  | _ => none }
def FnSeverityWarnModeRefusesNothingWrongFalsely : Prop := fnSeverityWarnModeRefusesNothingRow.holds Try.pinned (OpenSpec.ofChange fnSeverityWarnModeRefusesNothingWrong)

/-- 'zzlaws_crdcheck_b1.FnSeverityFailOpenLoosensOnlyUnhandled': WHATEVER THE INPUT: true; the input reads as it did. -/
def fnSeverityFailOpenLoosensOnlyUnhandledSpec : ChangeSpec := { name := "fnSeverityFailOpenLoosensOnlyUnhandled", fn := fun _ => fun
  | [d1, d2] => { results := [.lit (.bool true)], args := [d1, d2] }
  | _ => none }
def fnSeverityFailOpenLoosensOnlyUnhandledRow : OpenClaim := { program := "qxb6001497a", sum := "12c241912a4f826142e1346ce179dae02dc8fc8b9a3b920578ccf92839867f7a", func := "example.com/mortise/mortise/zzlaws_crdcheck_b1.FnSeverityFailOpenLoosensOnlyUnhandled", spec := "fnSeverityFailOpenLoosensOnlyUnhandled", apart := false }
def FnSeverityFailOpenLoosensOnlyUnhandledSaid : Prop := fnSeverityFailOpenLoosensOnlyUnhandledRow.holds Try.pinned (OpenSpec.ofChange fnSeverityFailOpenLoosensOnlyUnhandledSpec)

/-- ITS FALSE NEIGHBOUR: 'it returns false'. Refute it at one input. -/
def fnSeverityFailOpenLoosensOnlyUnhandledWrong : ChangeSpec := { name := "fnSeverityFailOpenLoosensOnlyUnhandled", fn := fun _ => fun
  | [d1, d2] => { results := [.lit (.bool false)], args := [d1, d2] }
  | _ => none }
def FnSeverityFailOpenLoosensOnlyUnhandledWrongFalsely : Prop := fnSeverityFailOpenLoosensOnlyUnhandledRow.holds Try.pinned (OpenSpec.ofChange fnSeverityFailOpenLoosensOnlyUnhandledWrong)

end Rows
end Go.Proofs.Qxb6001497a
