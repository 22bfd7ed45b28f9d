/-
  No cell of these rows narrows 'for every input' (looked for: loops, veiled, ifaces, maps, wideKeys, modest, calm, conditions, laid).
  DERIVED. THE GIVEN ROWS OF THIS SEAT. 1 by the template 'for every input the law returns true; each argument reads behind the call as it read before'; 0 by the template 'total and deterministic' (their statements: Qxb6617464aTotals.lean).
  GIVEN WITH THE SEED: the statements are not yours to turn. If you find one false, say at which input.
  Laid BY PROGRAM, IN A SANDBOX (cutbox-rows.mjs): the forced cells as the released guide's own fill.sh prints them over the translation ca20a7d77b11a8c4… (all of the seat's roots in one cut). By AI agents, Wed Nov 11 2026. No macro, syntax, notation, axiom, sorry.
-/
import Derived.Test.Qxb6617464aChecked
import GoSem.Claim
import GoSem.ClaimJoined
import GoSem.ClaimMapViews
import Derived.JoinedTies
import Derived.KernelRfl
namespace Go.Proofs.Qxb6617464a
/- THE CELL 'sum', in the pinned program and in every row, IS THE sha256 OF THE DUMP (.gsa) THAT Qxb6617464aProg.lean LOADS. Nothing in Lean hashes anything: it is a label: what it is worth is what the hold of that sum in a sandbox is worth. -/
noncomputable def Try.pinned : Pinned := { name := "qxb6617464a", sum := "ca20a7d77b11a8c4916152b5e7c01acc07c771c8774d3516a94dfeda5c8793f0", checked := Try.checked }
namespace Rows
def none {H : Type} : Left H := { results := [], args := [] }

/-- 'zzlaws_internal_eval_b1.FnMeanIsPaddedRunningSumOverCount': WHATEVER THE INPUT: true; the input reads as it did. -/
def fnMeanIsPaddedRunningSumOverCountSpec : ChangeSpec := { name := "fnMeanIsPaddedRunningSumOverCount", fn := fun _ => fun
  | [d1, d2] => { results := [.lit (.bool true)], args := [d1, d2] }
  | _ => none }
def fnMeanIsPaddedRunningSumOverCountRow : OpenClaim := { program := "qxb6617464a", sum := "ca20a7d77b11a8c4916152b5e7c01acc07c771c8774d3516a94dfeda5c8793f0", func := "example.com/pitviper/pitviper/zzlaws_internal_eval_b1.FnMeanIsPaddedRunningSumOverCount", spec := "fnMeanIsPaddedRunningSumOverCount", apart := false }
def FnMeanIsPaddedRunningSumOverCountSaid : Prop := fnMeanIsPaddedRunningSumOverCountRow.holds Try.pinned (OpenSpec.ofChange fnMeanIsPaddedRunningSumOverCountSpec)

/-- ITS FALSE NEIGHBOUR: 'it returns false'. Refute it at one input. -/
def fnMeanIsPaddedRunningSumOverCountWrong : ChangeSpec := { name := "fnMeanIsPaddedRunningSumOverCount", fn := fun _ => fun
  | [d1, d2] => { results := [.lit (.bool false)], args := [d1, d2] }
  | _ => none }
def FnMeanIsPaddedRunningSumOverCountWrongFalsely : Prop := fnMeanIsPaddedRunningSumOverCountRow.holds Try.pinned (OpenSpec.ofChange fnMeanIsPaddedRunningSumOverCountWrong)

end Rows
end Go.Proofs.Qxb6617464a
