/-
  No cell of these rows narrows 'for every input' (looked for: loops, veiled, ifaces, maps, wideKeys, modest, calm, conditions, laid).
  DERIVED. THE GIVEN ROWS OF THIS SEAT. 1 by the template 'for every input the law returns true; each argument reads behind the call as it read before'; 0 by the template 'total and deterministic' (their statements: Qxb6623450aTotals.lean).
  GIVEN WITH THE SEED: the statements are not yours to turn. If you find one false, say at which input.
  Laid BY PROGRAM, IN A SANDBOX (cutbox-rows.mjs): the forced cells as the released guide's own fill.sh prints them over the translation 002ec09e57fa11a2… (all of the seat's roots in one cut). By AI agents, Wed Nov 11 2026. No macro, syntax, notation, axiom, sorry.
-/
import Derived.Test.Qxb6623450aChecked
import GoSem.Claim
import GoSem.ClaimJoined
import GoSem.ClaimMapViews
import Derived.JoinedTies
import Derived.KernelRfl
namespace Go.Proofs.Qxb6623450a
/- THE CELL 'sum', in the pinned program and in every row, IS THE sha256 OF THE DUMP (.gsa) THAT Qxb6623450aProg.lean LOADS. Nothing in Lean hashes anything: it is a label: what it is worth is what the hold of that sum in a sandbox is worth. -/
noncomputable def Try.pinned : Pinned := { name := "qxb6623450a", sum := "002ec09e57fa11a2b07e14841f740c82005d1a08be80ca1f1ae12277e4316129", checked := Try.checked }
namespace Rows
def none {H : Type} : Left H := { results := [], args := [] }

/-- 'zzlaws_sip_b1.FnQuotedEndIsFirstUnescapedQuote': WHATEVER THE INPUT: true; the input reads as it did. -/
def fnQuotedEndIsFirstUnescapedQuoteSpec : ChangeSpec := { name := "fnQuotedEndIsFirstUnescapedQuote", fn := fun _ => fun
  | [d1, d2] => { results := [.lit (.bool true)], args := [d1, d2] }
  | _ => none }
def fnQuotedEndIsFirstUnescapedQuoteRow : OpenClaim := { program := "qxb6623450a", sum := "002ec09e57fa11a2b07e14841f740c82005d1a08be80ca1f1ae12277e4316129", func := "example.com/carillon/carillon/zzlaws_sip_b1.FnQuotedEndIsFirstUnescapedQuote", spec := "fnQuotedEndIsFirstUnescapedQuote", apart := false }
def FnQuotedEndIsFirstUnescapedQuoteSaid : Prop := fnQuotedEndIsFirstUnescapedQuoteRow.holds Try.pinned (OpenSpec.ofChange fnQuotedEndIsFirstUnescapedQuoteSpec)

/-- ITS FALSE NEIGHBOUR: 'it returns false'. Refute it at one input. -/
def fnQuotedEndIsFirstUnescapedQuoteWrong : ChangeSpec := { name := "fnQuotedEndIsFirstUnescapedQuote", fn := fun _ => fun
  | [d1, d2] => { results := [.lit (.bool false)], args := [d1, d2] }
  | _ => none }
def FnQuotedEndIsFirstUnescapedQuoteWrongFalsely : Prop := fnQuotedEndIsFirstUnescapedQuoteRow.holds Try.pinned (OpenSpec.ofChange fnQuotedEndIsFirstUnescapedQuoteWrong)

end Rows
end Go.Proofs.Qxb6623450a
