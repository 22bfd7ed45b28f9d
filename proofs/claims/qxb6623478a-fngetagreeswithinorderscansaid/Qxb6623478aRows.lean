/-
  NARROWER THAN 'FOR EVERY INPUT', by the rows' own cells (each row's printed sentence says how): FnGetAgreesWithInorderScan: loops.
  DERIVED. THE GIVEN ROWS OF THIS SEAT. 1 by the template 'for every input the law returns true; each argument reads behind the call as it read before'; 0 by the template 'total and deterministic' (their statements: Qxb6623478aTotals.lean).
  GIVEN WITH THE SEED: the statements are not yours to turn. If you find one false, say at which input.
  Laid BY PROGRAM, IN A SANDBOX (cutbox-rows.mjs): the forced cells as the released guide's own fill.sh prints them over the translation 5d09994c4c5c33fa… (all of the seat's roots in one cut). By AI agents, Wed Nov 11 2026. No macro, syntax, notation, axiom, sorry.
-/
import Derived.Test.Qxb6623478aChecked
import GoSem.Claim
import GoSem.ClaimJoined
import GoSem.ClaimMapViews
import Derived.JoinedTies
import Derived.KernelRfl
namespace Go.Proofs.Qxb6623478a
/- THE CELL 'sum', in the pinned program and in every row, IS THE sha256 OF THE DUMP (.gsa) THAT Qxb6623478aProg.lean LOADS. Nothing in Lean hashes anything: it is a label: what it is worth is what the hold of that sum in a sandbox is worth. -/
noncomputable def Try.pinned : Pinned := { name := "qxb6623478a", sum := "5d09994c4c5c33fa226af9ffdc62255ae84ffbffd08d82704f5cf7248f5ca0fb", checked := Try.checked }
namespace Rows
def none {H : Type} : Left H := { results := [], args := [] }

/-- 'zzlaws_internal_kv_b1.FnGetAgreesWithInorderScan': WHATEVER THE INPUT: true; the input reads as it did. -/
def fnGetAgreesWithInorderScanSpec : ChangeSpec := { name := "fnGetAgreesWithInorderScan", fn := fun _ => fun
  | [d1, d2] => { results := [.lit (.bool true)], args := [d1, d2] }
  | _ => none }
def fnGetAgreesWithInorderScanRow : OpenClaim := { program := "qxb6623478a", sum := "5d09994c4c5c33fa226af9ffdc62255ae84ffbffd08d82704f5cf7248f5ca0fb", func := "example.com/synod/synod/zzlaws_internal_kv_b1.FnGetAgreesWithInorderScan", spec := "fnGetAgreesWithInorderScan", recurses := true, loops := true, apart := false }
def FnGetAgreesWithInorderScanSaid : Prop := fnGetAgreesWithInorderScanRow.holds Try.pinned (OpenSpec.ofChange fnGetAgreesWithInorderScanSpec)

/-- ITS FALSE NEIGHBOUR: 'it returns false'. Refute it at one input. -/
def fnGetAgreesWithInorderScanWrong : ChangeSpec := { name := "fnGetAgreesWithInorderScan", fn := fun _ => fun
  | [d1, d2] => { results := [.lit (.bool false)], args := [d1, d2] }
  | _ => none }
def FnGetAgreesWithInorderScanWrongFalsely : Prop := fnGetAgreesWithInorderScanRow.holds Try.pinned (OpenSpec.ofChange fnGetAgreesWithInorderScanWrong)

end Rows
end Go.Proofs.Qxb6623478a
