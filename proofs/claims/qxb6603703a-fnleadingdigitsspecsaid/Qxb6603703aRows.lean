/-
  No cell of these rows narrows 'for every input' (looked for: loops, veiled, ifaces, maps, wideKeys, modest, calm, conditions, laid).
  DERIVED. THE GIVEN ROWS OF THIS SEAT. 1 by the template 'for every input the law returns true; each argument reads behind the call as it read before'; 0 by the template 'total and deterministic' (their statements: Qxb6603703aTotals.lean).
  GIVEN WITH THE SEED: the statements are not yours to turn. If you find one false, say at which input.
  Laid BY PROGRAM, IN A SANDBOX (cutbox-rows.mjs): the forced cells as the released guide's own fill.sh prints them over the translation 441412f8efb3906d… (all of the seat's roots in one cut). By AI agents, Wed Nov 11 2026. No macro, syntax, notation, axiom, sorry.
-/
import Derived.Test.Qxb6603703aChecked
import GoSem.Claim
import GoSem.ClaimJoined
import GoSem.ClaimMapViews
import Derived.JoinedTies
import Derived.KernelRfl
namespace Go.Proofs.Qxb6603703a
/- THE CELL 'sum', in the pinned program and in every row, IS THE sha256 OF THE DUMP (.gsa) THAT Qxb6603703aProg.lean LOADS. Nothing in Lean hashes anything: it is a label: what it is worth is what the hold of that sum in a sandbox is worth. -/
noncomputable def Try.pinned : Pinned := { name := "qxb6603703a", sum := "441412f8efb3906d5db6ce6b08636be843b514295f671c65dd2894bf5840c619", checked := Try.checked }
namespace Rows
def none {H : Type} : Left H := { results := [], args := [] }

/-- 'zzlaws_credits_b1.FnLeadingDigitsSpec': WHATEVER THE INPUT: true; the input reads as it did. -/
def fnLeadingDigitsSpecSpec : ChangeSpec := { name := "fnLeadingDigitsSpec", fn := fun _ => fun
  | [d] => { results := [.lit (.bool true)], args := [d] }
  | _ => none }
def fnLeadingDigitsSpecRow : OpenClaim := { program := "qxb6603703a", sum := "441412f8efb3906d5db6ce6b08636be843b514295f671c65dd2894bf5840c619", func := "example.com/tallykey/tallykey/zzlaws_credits_b1.FnLeadingDigitsSpec", spec := "fnLeadingDigitsSpec", apart := false }
def FnLeadingDigitsSpecSaid : Prop := fnLeadingDigitsSpecRow.holds Try.pinned (OpenSpec.ofChange fnLeadingDigitsSpecSpec)

/-- ITS FALSE NEIGHBOUR: 'it returns false'. Refute it at one input. -/
def fnLeadingDigitsSpecWrong : ChangeSpec := { name := "fnLeadingDigitsSpec", fn := fun _ => fun
  | [d] => { results := [.lit (.bool false)], args := [d] }
  | _ => none }
def FnLeadingDigitsSpecWrongFalsely : Prop := fnLeadingDigitsSpecRow.holds Try.pinned (OpenSpec.ofChange fnLeadingDigitsSpecWrong)

end Rows
end Go.Proofs.Qxb6603703a
