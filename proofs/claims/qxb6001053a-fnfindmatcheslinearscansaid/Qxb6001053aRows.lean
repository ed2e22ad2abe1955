/-
  No cell of these rows narrows 'for every input' (looked for: loops, veiled, ifaces, maps, wideKeys, modest, calm, conditions, laid).
  DERIVED. THE GIVEN ROWS OF THIS SEAT. 3 by the template 'for every input the law returns true; each argument reads behind the call as it read before'; 0 by the template 'total and deterministic' (their statements: Qxb6001053aTotals.lean).
  GIVEN WITH THE SEED: the statements are not yours to turn. If you find one false, say at which input.
  Laid BY PROGRAM, IN A SANDBOX (cutbox-rows.mjs): the forced cells as the released guide's own fill.sh prints them over the translation 5422e23fe2549cff… (all of the seat's roots in one cut). By AI agents, Wed Nov 11 2026. No macro, syntax, notation, axiom, sorry.
-/
import Derived.Test.Qxb6001053aChecked
import GoSem.Claim
import GoSem.ClaimJoined
import GoSem.ClaimMapViews
import Derived.JoinedTies
import Derived.KernelRfl
namespace Go.Proofs.Qxb6001053a
/- THE CELL 'sum', in the pinned program and in every row, IS THE sha256 OF THE DUMP (.gsa) THAT Qxb6001053aProg.lean LOADS. Nothing in Lean hashes anything: it is a label: what it is worth is what the hold of that sum in a sandbox is worth. -/
noncomputable def Try.pinned : Pinned := { name := "qxb6001053a", sum := "5422e23fe2549cfff0f45dbb81030c9b7bc8737eb147fd2a3521872c97cff3d3", checked := Try.checked }
namespace Rows
def none {H : Type} : Left H := { results := [], args := [] }

/-- 'zzlaws_root_b1.FnFindMatchesLinearScan': WHATEVER THE INPUT: true; the input reads as it did. -/
def fnFindMatchesLinearScanSpec : ChangeSpec := { name := "fnFindMatchesLinearScan", fn := fun _ => fun
  | [d1, d2, d3] => { results := [.lit (.bool true)], args := [d1, d2, d3] }
  | _ => none }
def fnFindMatchesLinearScanRow : OpenClaim := { program := "qxb6001053a", sum := "5422e23fe2549cfff0f45dbb81030c9b7bc8737eb147fd2a3521872c97cff3d3", func := "example.com/packwright/packwright/zzlaws_root_b1.FnFindMatchesLinearScan", spec := "fnFindMatchesLinearScan", inPlace := ["internal/bytealg.Compare"], apart := false }
def FnFindMatchesLinearScanSaid : Prop := fnFindMatchesLinearScanRow.holds Try.pinned (OpenSpec.ofChange fnFindMatchesLinearScanSpec)

/-- ITS FALSE NEIGHBOUR: 'it returns false'. Refute it at one input. -/
def fnFindMatchesLinearScanWrong : ChangeSpec := { name := "fnFindMatchesLinearScan", fn := fun _ => fun
  | [d1, d2, d3] => { results := [.lit (.bool false)], args := [d1, d2, d3] }
  | _ => none }
def FnFindMatchesLinearScanWrongFalsely : Prop := fnFindMatchesLinearScanRow.holds Try.pinned (OpenSpec.ofChange fnFindMatchesLinearScanWrong)

/-- 'zzlaws_root_b1.FnFindLocatesEachListedID': WHATEVER THE INPUT: true; the input reads as it did. -/
def fnFindLocatesEachListedIDSpec : ChangeSpec := { name := "fnFindLocatesEachListedID", fn := fun _ => fun
  | [d1, d2, d3] => { results := [.lit (.bool true)], args := [d1, d2, d3] }
  | _ => none }
def fnFindLocatesEachListedIDRow : OpenClaim := { program := "qxb6001053a", sum := "5422e23fe2549cfff0f45dbb81030c9b7bc8737eb147fd2a3521872c97cff3d3", func := "example.com/packwright/packwright/zzlaws_root_b1.FnFindLocatesEachListedID", spec := "fnFindLocatesEachListedID", inPlace := ["internal/bytealg.Compare"], apart := false }
def FnFindLocatesEachListedIDSaid : Prop := fnFindLocatesEachListedIDRow.holds Try.pinned (OpenSpec.ofChange fnFindLocatesEachListedIDSpec)

/-- ITS FALSE NEIGHBOUR: 'it returns false'. Refute it at one input. -/
def fnFindLocatesEachListedIDWrong : ChangeSpec := { name := "fnFindLocatesEachListedID", fn := fun _ => fun
  | [d1, d2, d3] => { results := [.lit (.bool false)], args := [d1, d2, d3] }
  | _ => none }
def FnFindLocatesEachListedIDWrongFalsely : Prop := fnFindLocatesEachListedIDRow.holds Try.pinned (OpenSpec.ofChange fnFindLocatesEachListedIDWrong)

/-- 'zzlaws_root_b1.FnFindHitIsGenuine': WHATEVER THE INPUT: true; the input reads as it did. -/
def fnFindHitIsGenuineSpec : ChangeSpec := { name := "fnFindHitIsGenuine", fn := fun _ => fun
  | [d1, d2, d3] => { results := [.lit (.bool true)], args := [d1, d2, d3] }
  | _ => none }
def fnFindHitIsGenuineRow : OpenClaim := { program := "qxb6001053a", sum := "5422e23fe2549cfff0f45dbb81030c9b7bc8737eb147fd2a3521872c97cff3d3", func := "example.com/packwright/packwright/zzlaws_root_b1.FnFindHitIsGenuine", spec := "fnFindHitIsGenuine", inPlace := ["internal/bytealg.Compare"], apart := false }
def FnFindHitIsGenuineSaid : Prop := fnFindHitIsGenuineRow.holds Try.pinned (OpenSpec.ofChange fnFindHitIsGenuineSpec)

/-- ITS FALSE NEIGHBOUR: 'it returns false'. Refute it at one input. -/
def fnFindHitIsGenuineWrong : ChangeSpec := { name := "fnFindHitIsGenuine", fn := fun _ => fun
  | [d1, d2, d3] => { results := [.lit (.bool false)], args := [d1, d2, d3] }
  | _ => none }
def FnFindHitIsGenuineWrongFalsely : Prop := fnFindHitIsGenuineRow.holds Try.pinned (OpenSpec.ofChange fnFindHitIsGenuineWrong)

end Rows
end Go.Proofs.Qxb6001053a
