/-
  No cell of these rows narrows 'for every input' (looked for: loops, veiled, ifaces, maps, wideKeys, modest, calm, conditions, laid).
  DERIVED. THE GIVEN ROWS OF THIS SEAT. 4 by the template 'for every input the law returns true; each argument reads behind the call as it read before'; 0 by the template 'total and deterministic' (their statements: Qxb6621689aTotals.lean).
  GIVEN WITH THE SEED: the statements are not yours to turn. If you find one false, say at which input.
  Laid BY PROGRAM, IN A SANDBOX (cutbox-rows.mjs): the forced cells as the released guide's own fill.sh prints them over the translation a32e0743f1a15f18… (all of the seat's roots in one cut). By AI agents, Wed Nov 11 2026. No macro, syntax, notation, axiom, sorry.
-/
import Derived.Test.Qxb6621689aChecked
import GoSem.Claim
import GoSem.ClaimJoined
import GoSem.ClaimMapViews
import Derived.JoinedTies
import Derived.KernelRfl
namespace Go.Proofs.Qxb6621689a
/- THE CELL 'sum', in the pinned program and in every row, IS THE sha256 OF THE DUMP (.gsa) THAT Qxb6621689aProg.lean LOADS. Nothing in Lean hashes anything: it is a label: what it is worth is what the hold of that sum in a sandbox is worth. -/
noncomputable def Try.pinned : Pinned := { name := "qxb6621689a", sum := "a32e0743f1a15f188638e1fbf1abfade039ad1dab0d48d728092e6acbab48733", checked := Try.checked }
namespace Rows
def none {H : Type} : Left H := { results := [], args := [] }

/-- 'zzlaws_internal_ptree_b1.FnParentThenChildRoundTrip': WHATEVER THE INPUT: true; the input reads as it did. -/
def fnParentThenChildRoundTripSpec : ChangeSpec := { name := "fnParentThenChildRoundTrip", fn := fun _ => fun
  | [d1, d2] => { results := [.lit (.bool true)], args := [d1, d2] }
  | _ => none }
def fnParentThenChildRoundTripRow : OpenClaim := { program := "qxb6621689a", sum := "a32e0743f1a15f188638e1fbf1abfade039ad1dab0d48d728092e6acbab48733", func := "example.com/coterie/coterie/zzlaws_internal_ptree_b1.FnParentThenChildRoundTrip", spec := "fnParentThenChildRoundTrip", apart := false }
def FnParentThenChildRoundTripSaid : Prop := fnParentThenChildRoundTripRow.holds Try.pinned (OpenSpec.ofChange fnParentThenChildRoundTripSpec)

/-- ITS FALSE NEIGHBOUR: 'it returns false'. Refute it at one input. -/
def fnParentThenChildRoundTripWrong : ChangeSpec := { name := "fnParentThenChildRoundTrip", fn := fun _ => fun
  | [d1, d2] => { results := [.lit (.bool false)], args := [d1, d2] }
  | _ => none }
def FnParentThenChildRoundTripWrongFalsely : Prop := fnParentThenChildRoundTripRow.holds Try.pinned (OpenSpec.ofChange fnParentThenChildRoundTripWrong)

/-- 'zzlaws_internal_ptree_b1.FnChildContainsSplitsTheNode': WHATEVER THE INPUT: true; the input reads as it did. -/
def fnChildContainsSplitsTheNodeSpec : ChangeSpec := { name := "fnChildContainsSplitsTheNode", fn := fun _ => fun
  | [d1, d2, d3, d4] => { results := [.lit (.bool true)], args := [d1, d2, d3, d4] }
  | _ => none }
def fnChildContainsSplitsTheNodeRow : OpenClaim := { program := "qxb6621689a", sum := "a32e0743f1a15f188638e1fbf1abfade039ad1dab0d48d728092e6acbab48733", func := "example.com/coterie/coterie/zzlaws_internal_ptree_b1.FnChildContainsSplitsTheNode", spec := "fnChildContainsSplitsTheNode", apart := false }
def FnChildContainsSplitsTheNodeSaid : Prop := fnChildContainsSplitsTheNodeRow.holds Try.pinned (OpenSpec.ofChange fnChildContainsSplitsTheNodeSpec)

/-- ITS FALSE NEIGHBOUR: 'it returns false'. Refute it at one input. -/
def fnChildContainsSplitsTheNodeWrong : ChangeSpec := { name := "fnChildContainsSplitsTheNode", fn := fun _ => fun
  | [d1, d2, d3, d4] => { results := [.lit (.bool false)], args := [d1, d2, d3, d4] }
  | _ => none }
def FnChildContainsSplitsTheNodeWrongFalsely : Prop := fnChildContainsSplitsTheNodeRow.holds Try.pinned (OpenSpec.ofChange fnChildContainsSplitsTheNodeWrong)

/-- 'zzlaws_internal_ptree_b1.FnParentContainsWidensTheNode': WHATEVER THE INPUT: true; the input reads as it did. -/
def fnParentContainsWidensTheNodeSpec : ChangeSpec := { name := "fnParentContainsWidensTheNode", fn := fun _ => fun
  | [d1, d2, d3] => { results := [.lit (.bool true)], args := [d1, d2, d3] }
  | _ => none }
def fnParentContainsWidensTheNodeRow : OpenClaim := { program := "qxb6621689a", sum := "a32e0743f1a15f188638e1fbf1abfade039ad1dab0d48d728092e6acbab48733", func := "example.com/coterie/coterie/zzlaws_internal_ptree_b1.FnParentContainsWidensTheNode", spec := "fnParentContainsWidensTheNode", apart := false }
def FnParentContainsWidensTheNodeSaid : Prop := fnParentContainsWidensTheNodeRow.holds Try.pinned (OpenSpec.ofChange fnParentContainsWidensTheNodeSpec)

/-- ITS FALSE NEIGHBOUR: 'it returns false'. Refute it at one input. -/
def fnParentContainsWidensTheNodeWrong : ChangeSpec := { name := "fnParentContainsWidensTheNode", fn := fun _ => fun
  | [d1, d2, d3] => { results := [.lit (.bool false)], args := [d1, d2, d3] }
  | _ => none }
def FnParentContainsWidensTheNodeWrongFalsely : Prop := fnParentContainsWidensTheNodeRow.holds Try.pinned (OpenSpec.ofChange fnParentContainsWidensTheNodeWrong)

/-- 'zzlaws_internal_ptree_b1.FnChildThenParentRoundTrip': WHATEVER THE INPUT: true; the input reads as it did. -/
def fnChildThenParentRoundTripSpec : ChangeSpec := { name := "fnChildThenParentRoundTrip", fn := fun _ => fun
  | [d1, d2, d3] => { results := [.lit (.bool true)], args := [d1, d2, d3] }
  | _ => none }
def fnChildThenParentRoundTripRow : OpenClaim := { program := "qxb6621689a", sum := "a32e0743f1a15f188638e1fbf1abfade039ad1dab0d48d728092e6acbab48733", func := "example.com/coterie/coterie/zzlaws_internal_ptree_b1.FnChildThenParentRoundTrip", spec := "fnChildThenParentRoundTrip", apart := false }
def FnChildThenParentRoundTripSaid : Prop := fnChildThenParentRoundTripRow.holds Try.pinned (OpenSpec.ofChange fnChildThenParentRoundTripSpec)

/-- ITS FALSE NEIGHBOUR: 'it returns false'. Refute it at one input. -/
def fnChildThenParentRoundTripWrong : ChangeSpec := { name := "fnChildThenParentRoundTrip", fn := fun _ => fun
  | [d1, d2, d3] => { results := [.lit (.bool false)], args := [d1, d2, d3] }
  | _ => none }
def FnChildThenParentRoundTripWrongFalsely : Prop := fnChildThenParentRoundTripRow.holds Try.pinned (OpenSpec.ofChange fnChildThenParentRoundTripWrong)

end Rows
end Go.Proofs.Qxb6621689a
